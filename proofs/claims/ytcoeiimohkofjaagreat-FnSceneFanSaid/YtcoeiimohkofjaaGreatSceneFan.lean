/-
  Proved: FnSceneFan returns true for every input, and leaves its arguments as they were. No conditions.
-/
import Derived.Test.YtcoeiimohkofjaaGreatRows
import Derived.Test.YtcoeiimohkofjaaGreatQD
import Derived.ProofKit
import Derived.Lib.SmallJoins
import Derived.Carry
import Derived.OpenShut
import Derived.Deep.SlicePairs
import Derived.ChangeArms
set_option linter.unusedSimpArgs false
set_option linter.unusedVariables false
namespace Go.Proofs.YtcoeiimohkofjaaGreat
open Go.ChangeShapes Go.WideShapes Go.ChangeAt Go.RowKit Go.Joins Go.Deep PF

theorem ownTrR : ownKnob Tryz.prog.godebug = none := by kernel_rfl
theorem laidTrR : laidOutB Tryz.prog = true := by kernel_rfl
theorem cellsP2R : Tryz.prog.cellsOf 27 = 2 := by kernel_rfl
theorem cellsSlR : Tryz.prog.cellsOf 22 = 1 := by kernel_rfl

theorem add_plain {w : World} {a : Addr} {x : Value} (h : w.cell? (a.add 0) = some x) (k : Nat) : a.add k = ⟨a.block, a.off + k, none⟩ := by
  have hs : a.spot = none := by
    cases hh : a.spot with
    | none => rfl
    | some s =>
      unfold World.cell? Addr.add at h
      simp only [if_true] at h
      rw [hh] at h
      cases hb : w.heap[a.block]? with
      | none => simp [hb] at h
      | some o => cases o <;> simp [hb] at h
  obtain ⟨b, o, s⟩ := a
  simp only at hs
  subst hs
  unfold Addr.add
  split
  · simp_all
  · rfl
def ivR : Value → Int
  | .int _ n => n
  | _ => 0
section
variable {H : Type} {enc : TypeId × Value → H} {w : World} {base : Nat} {spare : Nat → Bool} {held : Bool}
theorem slp_of_trod {n : Nat} {v : Value} {x : DataW H × List MemPlace} (h : DataW.trod enc Tryz.prog w base spare held n 22 [v] = some x) : ∃ l : List (Int × Int), SlP w v l ∧ l.length ≤ 9223372036854775807 := by
  rcases open_slice_pairs Tryz.underlying22 Tryz.underlying27 cellsP2R rfl rfl (by kernel_rfl) (by kernel_rfl) h with ⟨h1, -⟩ | ⟨a, len, cap, m, n', V0, V1, D0, D1, P0, P1, h1, -, hl, hm, hmm, -, hi⟩
  · obtain rfl : v = .slice none 0 0 := by simpa using h1
    exact ⟨[], ⟨none, 0, rfl, fun k p hp => by simp at hp⟩, by simp⟩
  · obtain rfl : v = .slice (some a) len cap := by simpa using h1
    have hlm : len ≤ m := by rw [hmm]; split <;> omega
    refine ⟨(List.range len).map fun i => (ivR (V0 i), ivR (V1 i)), ⟨some a, cap, by simp, fun k p hp => ?_⟩, by simp; unfold maxLen at hm; omega⟩
    have hk : k < len := by
      rcases Nat.lt_or_ge k len with h | h
      · exact h
      · rw [List.getElem?_eq_none (by simp; omega)] at hp; cases hp
    obtain rfl : (ivR (V0 k), ivR (V1 k)) = p := by simpa [List.getElem?_map, List.getElem?_range hk] using hp
    obtain ⟨g1, g2, g3, g4⟩ := hi k (by omega)
    obtain ⟨g0, -⟩ := hi 0 (by omega)
    rw [Nat.zero_mul] at g0
    obtain ⟨K0, z0, -, -⟩ := DataW.trod_int Tryz.underlying2 g3
    obtain ⟨K1, z1, -, -⟩ := DataW.trod_int Tryz.underlying2 g4
    simp at z0 z1
    rw [add_plain g0] at g1 g2
    refine ⟨a.block, a.off, ?_, ?_, ?_⟩
    · have := add_plain g0 0
      rw [show a.add 0 = a from rfl] at this
      rw [this]
    · rw [g1, z0]; rfl
    · rw [show a.off + k * 2 + 1 = a.off + (k * 2 + 1) from by omega, g2, z1]; rfl
end

set_option maxRecDepth 100000 in
theorem sceneFan_lifted (os : Os) (started : os.Started) (H : Type) (enc : TypeId × Value → H) :
    ReturnsInHanded {} Tryz.checked os 6 .any (Rows.fnSceneFanSpec.pre6 enc Tryz.prog Tryz.f6 Rows.fnSceneFanRow.domain false) (Rows.fnSceneFanSpec.post enc Tryz.prog Tryz.f6 false true false false) := by
  refine returnsInHanded_of_change (C := Tryz.checked) ownTrR started (by kernel_rfl) Tryz.func6
    (ChangeSpec.witness6 (enc := enc) (C := Tryz.checked) false ⟨#[], #[.slice none 0 0, .agg #[.int .i64 0, .int .i64 0]], []⟩ 8 (by kernel_rfl) (by kernel_rfl) (by kernel_rfl) (by kernel_rfl)) ?_
  intro W base args ds gs before hval0 hW hcnd _
  have hval : ∀ (j : Nat) t v, Tryz.f6.params[j]? = some t → args[j]? = some v → Value.okWide Tryz.prog W .any base t v := hval0
  have hW' := hW
  obtain ⟨p, q, hA0, hV, rfl, hfz, hnd⟩ := hW
  have hA : DataW.TrodAll enc Tryz.prog W 0 (fun _ => true) true Tryz.f6.params.toList args.toList ds p := hA0
  rw [Tryz.params6] at hA hval
  have hA1 := hA
  obtain ⟨v0, r0, d0, e0, p0, q0, hv0, rfl, rfl, h0, hA1⟩ := trodAll_cons hA1
  obtain ⟨v1, r1, d1, e1, p1, q1, rfl, rfl, rfl, h1, hA1⟩ := trodAll_cons hA1
  obtain ⟨rfl, rfl, rfl⟩ := trodAll_nil hA1
  obtain rfl : args = #[v0, v1] := by cases args; simp_all
  obtain ⟨rfl, rfl⟩ := trodVars_none hV
  have k0 := h0
  have k1 := h1
  obtain ⟨as0, ln0, cp0, rfl⟩ := okWide_slice Tryz.underlying22 (hval 0 22 v0 rfl rfl)
  obtain ⟨mm0, h0⟩ := h0
  obtain ⟨l0, hs0, hl0⟩ := slp_of_trod h0
  obtain ⟨A1, B1, ya1, yb1, mm1, rfl, rfl, rfl, ga1, gb1⟩ := open_agg2 Tryz.underlying27 (by kernel_rfl) cellsP2R (hval 1 27 v1 rfl rfl) h1
  obtain ⟨x1, za1, rfl, -⟩ := DataW.trod_int Tryz.underlying2 ga1
  obtain ⟨y1, zb1, rfl, -⟩ := DataW.trod_int Tryz.underlying2 gb1
  simp at za1 zb1
  subst za1 zb1
  clear hA0 hval0 hA
  refine (fan_c l0 x1 y1 hl0 _ W hs0).mono fun e W' ⟨he, hB⟩ => ?_
  subst he
  have A := trodAll_mk2 (Below.trod laidTrR (by kernel_rfl) (of_decide_eq_true (by kernel_rfl)) k0 hB (fun x hx => k0.elim fun n hn => DataW.trod_lt n _ _ _ hn x hx)) (Below.trod laidTrR (by kernel_rfl) (of_decide_eq_true (by kernel_rfl)) k1 hB (fun x hx => k1.elim fun n hn => DataW.trod_lt n _ _ _ hn x hx))
  refine ⟨_, rfl, _, _, _, [], _, [], hW', ?_, A, rfl, hB.frame _, fun h => by cases h⟩
  have u : Tryz.checked.prog.underlying 4 = some .bool := Tryz.underlying4
  exact trodAll_mk1 ⟨1, by simp [DataW.trod, u, Value.cells]⟩

theorem sceneFan_holds : Rows.FnSceneFanSaid :=
  OpenClaim.holds_of_wide 6 Tryz.f6 rfl rfl rfl rfl rfl rfl rfl ⟨rfl, rfl, rfl, rfl, rfl⟩ rfl rfl rfl rfl rfl (by kernel_rfl) Tryz.func6 (by kernel_rfl)
    (of_decide_eq_true (by kernel_rfl)) (by unfold Func.isWrapper; first | (rw [if_pos (by decide +kernel)]; kernel_rfl) | (rw [if_neg (by decide +kernel)]; exact ⟨rfl, rfl⟩))
    (fun os started H enc _ => sceneFan_lifted os started H enc)
end Go.Proofs.YtcoeiimohkofjaaGreat
