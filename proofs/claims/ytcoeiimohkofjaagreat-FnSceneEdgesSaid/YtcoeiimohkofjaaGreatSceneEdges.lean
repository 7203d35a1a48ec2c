/-
  Proved: FnSceneEdges returns true for every input, and leaves its arguments as they were. No conditions.
-/
import Derived.Test.YtcoeiimohkofjaaGreatRows
import Derived.Test.YtcoeiimohkofjaaGreatQD
import Derived.ProofKit
import Derived.Lib.SmallJoins
import Derived.Carry
import Derived.OpenShut
import Derived.Deep.SlicePairs
import Derived.ChangeArms
set_option linter.unusedSimpArgs false
set_option linter.unusedVariables false
namespace Go.Proofs.YtcoeiimohkofjaaGreat
open Go.ChangeShapes Go.WideShapes Go.ChangeAt Go.RowKit Go.Joins Go.Deep PF

theorem ownTrR : ownKnob Tryz.prog.godebug = none := by kernel_rfl
theorem laidTrR : laidOutB Tryz.prog = true := by kernel_rfl
theorem cellsP2R : Tryz.prog.cellsOf 27 = 2 := by kernel_rfl
theorem cellsPoR : Tryz.prog.cellsOf 25 = 2 := by kernel_rfl
theorem cellsSlR : Tryz.prog.cellsOf 22 = 1 := by kernel_rfl

theorem add_plain {w : World} {a : Addr} {x : Value} (h : w.cell? (a.add 0) = some x) (k : Nat) : a.add k = ⟨a.block, a.off + k, none⟩ := by
  have hs : a.spot = none := by
    cases hh : a.spot with
    | none => rfl
    | some s =>
      unfold World.cell? Addr.add at h
      simp only [if_true] at h
      rw [hh] at h
      cases hb : w.heap[a.block]? with
      | none => simp [hb] at h
      | some o => cases o <;> simp [hb] at h
  obtain ⟨b, o, s⟩ := a
  simp only at hs
  subst hs
  unfold Addr.add
  split
  · simp_all
  · rfl
def ivR : Value → Int
  | .int _ n => n
  | _ => 0
section
variable {H : Type} {enc : TypeId × Value → H} {w : World} {base : Nat} {spare : Nat → Bool} {held : Bool}
theorem slp_of_trod {n : Nat} {v : Value} {x : DataW H × List MemPlace} (h : DataW.trod enc Tryz.prog w base spare held n 22 [v] = some x) : ∃ l : List (Int × Int), SlP w v l ∧ l.length ≤ 9223372036854775807 := by
  rcases open_slice_pairs Tryz.underlying22 Tryz.underlying27 cellsP2R rfl rfl (by kernel_rfl) (by kernel_rfl) h with ⟨h1, -⟩ | ⟨a, len, cap, m, n', V0, V1, D0, D1, P0, P1, h1, -, hl, hm, hmm, -, hi⟩
  · obtain rfl : v = .slice none 0 0 := by simpa using h1
    exact ⟨[], ⟨none, 0, rfl, fun k p hp => by simp at hp⟩, by simp⟩
  · obtain rfl : v = .slice (some a) len cap := by simpa using h1
    have hlm : len ≤ m := by rw [hmm]; split <;> omega
    refine ⟨(List.range len).map fun i => (ivR (V0 i), ivR (V1 i)), ⟨some a, cap, by simp, fun k p hp => ?_⟩, by simp; unfold maxLen at hm; omega⟩
    have hk : k < len := by
      rcases Nat.lt_or_ge k len with h | h
      · exact h
      · rw [List.getElem?_eq_none (by simp; omega)] at hp; cases hp
    obtain rfl : (ivR (V0 k), ivR (V1 k)) = p := by simpa [List.getElem?_map, List.getElem?_range hk] using hp
    obtain ⟨g1, g2, g3, g4⟩ := hi k (by omega)
    obtain ⟨g0, -⟩ := hi 0 (by omega)
    rw [Nat.zero_mul] at g0
    obtain ⟨K0, z0, -, -⟩ := DataW.trod_int Tryz.underlying2 g3
    obtain ⟨K1, z1, -, -⟩ := DataW.trod_int Tryz.underlying2 g4
    simp at z0 z1
    rw [add_plain g0] at g1 g2
    refine ⟨a.block, a.off, ?_, ?_, ?_⟩
    · have := add_plain g0 0
      rw [show a.add 0 = a from rfl] at this
      rw [this]
    · rw [g1, z0]; rfl
    · rw [show a.off + k * 2 + 1 = a.off + (k * 2 + 1) from by omega, g2, z1]; rfl
theorem slh_of_trod {n : Nat} {v : Value} {x : DataW H × List MemPlace} (h : DataW.trod enc Tryz.prog w base spare held n 23 [v] = some x) : ∃ L : List (List (Int × Int)), SlH w v L ∧ L.length ≤ 9223372036854775807 ∧ ∀ l ∈ L, l.length ≤ 9223372036854775807 := by
  rcases open_slice Tryz.underlying23 h with ⟨h1, -⟩ | ⟨a, len, cap, m, n', D, Pl, h1, -, hl, hm, hmm, -, hi⟩
  · obtain rfl : v = .slice none 0 0 := by simpa using h1
    exact ⟨[], ⟨none, 0, rfl, fun k p hp => by simp at hp⟩, by simp, by simp⟩
  · obtain rfl : v = .slice (some a) len cap := by simpa using h1
    have hlm : len ≤ m := by rw [hmm]; split <;> omega
    have each : ∀ i, i < m → ∃ l : List (Int × Int), ∃ y, w.cell? (a.add i) = some y ∧ SlP w y l ∧ l.length ≤ 9223372036854775807 := by
      intro i him
      obtain ⟨cs', hc, ht⟩ := hi i him
      rw [cellsSlR, Nat.mul_one] at hc
      obtain ⟨_, hcl, hat⟩ := World.cells?_some hc
      match cs', hcl with
      | [y], _ =>
        have hcell := hat 0 (by omega)
        obtain ⟨l, hl, hll⟩ := slp_of_trod ht
        exact ⟨l, y, by rw [show a.add i = (a.add i).add 0 from rfl, hcell]; rfl, hl, hll⟩
    refine ⟨(List.range len).map fun i => if h : i < m then Classical.choose (each i h) else [], ⟨some a, cap, by simp, fun k p hp => ?_⟩, by simp; unfold maxLen at hm; omega, ?_⟩
    · have hk : k < len := by
        rcases Nat.lt_or_ge k len with h | h
        · exact h
        · rw [List.getElem?_eq_none (by simp; omega)] at hp; cases hp
      have hkm : k < m := by omega
      obtain rfl : Classical.choose (each k hkm) = p := by simpa [List.getElem?_map, List.getElem?_range hk, hkm] using hp
      obtain ⟨y, g1, g2, -⟩ := Classical.choose_spec (each k hkm)
      obtain ⟨-, y0, g0, -, -⟩ := each 0 (by omega)
      rw [add_plain g0] at g1
      have := add_plain g0 0
      rw [show a.add 0 = a from rfl] at this
      exact ⟨a.block, a.off, y, by rw [this], g1, g2⟩
    · intro l hl
      simp at hl
      obtain ⟨i, hi', rfl⟩ := hl
      have him : i < m := by omega
      rw [dif_pos him]
      obtain ⟨y, -, -, g3⟩ := Classical.choose_spec (each i him)
      exact g3
theorem cap_of_trod {n : Nat} {v : Value} {x : DataW H × List MemPlace} (h : DataW.trod enc Tryz.prog w base spare held n 23 [v] = some x) : CapOk v := by
  rcases open_slice Tryz.underlying23 h with ⟨h1, -⟩ | ⟨a, len, cap, m, n', D, Pl, h1, -, hl, -⟩
  · obtain rfl : v = .slice none 0 0 := by simpa using h1
    intro A n c e
    cases e
    exact Nat.le_refl _
  · obtain rfl : v = .slice (some a) len cap := by simpa using h1
    intro A n c e
    cases e
    exact hl
end

set_option maxRecDepth 100000 in
theorem sceneEdges_lifted (os : Os) (started : os.Started) (H : Type) (enc : TypeId × Value → H) :
    ReturnsInHanded {} Tryz.checked os 5 .any (Rows.fnSceneEdgesSpec.pre6 enc Tryz.prog Tryz.f5 Rows.fnSceneEdgesRow.domain false) (Rows.fnSceneEdgesSpec.post enc Tryz.prog Tryz.f5 false true false false) := by
  refine returnsInHanded_of_change (C := Tryz.checked) ownTrR started (by kernel_rfl) Tryz.func5
    (ChangeSpec.witness6 (enc := enc) (C := Tryz.checked) false ⟨#[], #[.agg #[.slice none 0 0, .slice none 0 0]], []⟩ 8 (by kernel_rfl) (by kernel_rfl) (by kernel_rfl) (by kernel_rfl)) ?_
  intro W base args ds gs before hval0 hW hcnd _
  have hval : ∀ (j : Nat) t v, Tryz.f5.params[j]? = some t → args[j]? = some v → Value.okWide Tryz.prog W .any base t v := hval0
  have hW' := hW
  obtain ⟨p, q, hA0, hV, rfl, hfz, hnd⟩ := hW
  have hA : DataW.TrodAll enc Tryz.prog W 0 (fun _ => true) true Tryz.f5.params.toList args.toList ds p := hA0
  rw [Tryz.params5] at hA hval
  have hA1 := hA
  obtain ⟨v0, r0, d0, e0, p0, q0, hv0, rfl, rfl, h0, hA1⟩ := trodAll_cons hA1
  obtain ⟨rfl, rfl, rfl⟩ := trodAll_nil hA1
  obtain rfl : args = #[v0] := by cases args; simp_all
  obtain ⟨rfl, rfl⟩ := trodVars_none hV
  have k0 := h0
  obtain ⟨cP0, cH0, yP0, yH0, mm0, rfl, rfl, rfl, gP0, gH0⟩ := open_agg2 Tryz.underlying25 (by kernel_rfl) cellsPoR (hval 0 25 v0 rfl rfl) h0
  obtain ⟨l0, hs0, hl0⟩ := slp_of_trod gP0
  have hc0 := cap_of_trod gH0
  obtain ⟨H0, hh0, hH0, hHH0⟩ := slh_of_trod gH0
  clear hA0 hval0 hA
  refine (edg_c l0 H0 hl0 hH0 hHH0 _ _ W hs0 hh0 hc0).mono fun e W' ⟨he, hB⟩ => ?_
  subst he
  have A := trodAll_mk1 (Below.trod laidTrR (by kernel_rfl) (of_decide_eq_true (by kernel_rfl)) k0 hB (fun x hx => k0.elim fun n hn => DataW.trod_lt n _ _ _ hn x hx))
  refine ⟨_, rfl, _, _, _, [], _, [], hW', ?_, A, rfl, hB.frame _, fun h => by cases h⟩
  have u : Tryz.checked.prog.underlying 4 = some .bool := Tryz.underlying4
  exact trodAll_mk1 ⟨1, by simp [DataW.trod, u, Value.cells]⟩

theorem sceneEdges_holds : Rows.FnSceneEdgesSaid :=
  OpenClaim.holds_of_wide 5 Tryz.f5 rfl rfl rfl rfl rfl rfl rfl ⟨rfl, rfl, rfl, rfl, rfl⟩ rfl rfl rfl rfl rfl (by kernel_rfl) Tryz.func5 (by kernel_rfl)
    (of_decide_eq_true (by kernel_rfl)) (by unfold Func.isWrapper; first | (rw [if_pos (by decide +kernel)]; kernel_rfl) | (rw [if_neg (by decide +kernel)]; exact ⟨rfl, rfl⟩))
    (fun os started H enc _ => sceneEdges_lifted os started H enc)
end Go.Proofs.YtcoeiimohkofjaaGreat
