/-
  Proved: FnLineSegments returns true for every input, and leaves its arguments as they were. No conditions.
-/
import Derived.Test.YtdlcckkphjpeoaaGreatRows
import Derived.Test.YtdlcckkphjpeoaaGreatKg
import Derived.ProofKit
import Derived.Lib.SmallJoins
import Derived.Carry
import Derived.OpenShut
import Derived.Deep.SlicePairs
import Derived.ChangeArms
set_option linter.unusedSimpArgs false
set_option linter.unusedVariables false
namespace Go.Proofs.YtdlcckkphjpeoaaGreat
open Go.ChangeShapes Go.WideShapes Go.ChangeAt Go.RowKit Go.Joins Go.Deep PF

theorem ownTrR : ownKnob Tryz.prog.godebug = none := by kernel_rfl
theorem laidTrR : laidOutB Tryz.prog = true := by kernel_rfl
theorem cellsP2R : Tryz.prog.cellsOf 29 = 2 := by kernel_rfl
theorem cellsSlR : Tryz.prog.cellsOf 24 = 1 := by kernel_rfl

theorem add_plain {w : World} {a : Addr} {x : Value} (h : w.cell? (a.add 0) = some x) (k : Nat) : a.add k = ⟨a.block, a.off + k, none⟩ := by
  have hs : a.spot = none := by
    cases hh : a.spot with
    | none => rfl
    | some s =>
      unfold World.cell? Addr.add at h
      simp only [if_true] at h
      rw [hh] at h
      cases hb : w.heap[a.block]? with
      | none => simp [hb] at h
      | some o => cases o <;> simp [hb] at h
  obtain ⟨b, o, s⟩ := a
  simp only at hs
  subst hs
  unfold Addr.add
  split
  · simp_all
  · rfl
def ivR : Value → Int
  | .int _ n => n
  | _ => 0
section
variable {H : Type} {enc : TypeId × Value → H} {w : World} {base : Nat} {spare : Nat → Bool} {held : Bool}
theorem slp_of_trod {n : Nat} {v : Value} {x : DataW H × List MemPlace} (h : DataW.trod enc Tryz.prog w base spare held n 24 [v] = some x) : ∃ l : List (Int × Int), SlP w v l ∧ l.length ≤ 9223372036854775807 := by
  rcases open_slice_pairs Tryz.underlying24 Tryz.underlying29 cellsP2R rfl rfl (by kernel_rfl) (by kernel_rfl) h with ⟨h1, -⟩ | ⟨a, len, cap, m, n', V0, V1, D0, D1, P0, P1, h1, -, hl, hm, hmm, -, hi⟩
  · obtain rfl : v = .slice none 0 0 := by simpa using h1
    exact ⟨[], ⟨none, 0, rfl, fun k p hp => by simp at hp⟩, by simp⟩
  · obtain rfl : v = .slice (some a) len cap := by simpa using h1
    have hlm : len ≤ m := by rw [hmm]; split <;> omega
    refine ⟨(List.range len).map fun i => (ivR (V0 i), ivR (V1 i)), ⟨some a, cap, by simp, fun k p hp => ?_⟩, by simp; unfold maxLen at hm; omega⟩
    have hk : k < len := by
      rcases Nat.lt_or_ge k len with h | h
      · exact h
      · rw [List.getElem?_eq_none (by simp; omega)] at hp; cases hp
    obtain rfl : (ivR (V0 k), ivR (V1 k)) = p := by simpa [List.getElem?_map, List.getElem?_range hk] using hp
    obtain ⟨g1, g2, g3, g4⟩ := hi k (by omega)
    obtain ⟨g0, -⟩ := hi 0 (by omega)
    rw [Nat.zero_mul] at g0
    obtain ⟨K0, z0, -, -⟩ := DataW.trod_int Tryz.underlying2 g3
    obtain ⟨K1, z1, -, -⟩ := DataW.trod_int Tryz.underlying2 g4
    simp at z0 z1
    rw [add_plain g0] at g1 g2
    refine ⟨a.block, a.off, ?_, ?_, ?_⟩
    · have := add_plain g0 0
      rw [show a.add 0 = a from rfl] at this
      rw [this]
    · rw [g1, z0]; rfl
    · rw [show a.off + k * 2 + 1 = a.off + (k * 2 + 1) from by omega, g2, z1]; rfl
end

set_option maxRecDepth 100000 in
theorem lineSegments_lifted (os : Os) (started : os.Started) (H : Type) (enc : TypeId × Value → H) :
    ReturnsInHanded {} Tryz.checked os 5 .any (Rows.fnLineSegmentsSpec.pre6 enc Tryz.prog Tryz.f5 Rows.fnLineSegmentsRow.domain false) (Rows.fnLineSegmentsSpec.post enc Tryz.prog Tryz.f5 false true false false) := by
  refine returnsInHanded_of_change (C := Tryz.checked) ownTrR started (by kernel_rfl) Tryz.func5
    (ChangeSpec.witness6 (enc := enc) (C := Tryz.checked) false ⟨#[], #[.slice none 0 0, .slice none 0 0, .agg #[.int .i64 0, .int .i64 0], .int .u8 0], []⟩ 8 (by kernel_rfl) (by kernel_rfl) (by kernel_rfl) (by kernel_rfl)) ?_
  intro W base args ds gs before hval0 hW hcnd _
  have hval : ∀ (j : Nat) t v, Tryz.f5.params[j]? = some t → args[j]? = some v → Value.okWide Tryz.prog W .any base t v := hval0
  have hW' := hW
  obtain ⟨p, q, hA0, hV, rfl, hfz, hnd⟩ := hW
  have hA : DataW.TrodAll enc Tryz.prog W 0 (fun _ => true) true Tryz.f5.params.toList args.toList ds p := hA0
  rw [Tryz.params5] at hA hval
  have hA1 := hA
  obtain ⟨v0, r0, d0, e0, p0, q0, hv0, rfl, rfl, h0, hA1⟩ := trodAll_cons hA1
  obtain ⟨v1, r1, d1, e1, p1, q1, rfl, rfl, rfl, h1, hA1⟩ := trodAll_cons hA1
  obtain ⟨v2, r2, d2, e2, p2, q2, rfl, rfl, rfl, h2, hA1⟩ := trodAll_cons hA1
  obtain ⟨v3, r3, d3, e3, p3, q3, rfl, rfl, rfl, h3, hA1⟩ := trodAll_cons hA1
  obtain ⟨rfl, rfl, rfl⟩ := trodAll_nil hA1
  obtain rfl : args = #[v0, v1, v2, v3] := by cases args; simp_all
  obtain ⟨rfl, rfl⟩ := trodVars_none hV
  have k0 := h0
  have k1 := h1
  have k2 := h2
  have k3 := h3
  obtain ⟨as1, ln1, cp1, rfl⟩ := okWide_slice Tryz.underlying24 (hval 0 24 v0 rfl rfl)
  obtain ⟨m0, h0⟩ := h0
  obtain ⟨l, hsl, hll⟩ := slp_of_trod h0
  obtain ⟨as2, ln2, cp2, rfl⟩ := okWide_slice Tryz.underlying24 (hval 1 24 v1 rfl rfl)
  obtain ⟨mm0, h1⟩ := h1
  obtain ⟨l2, hsl2, hll2⟩ := slp_of_trod h1
  obtain ⟨a1, b1, y10, y11, m1, rfl, rfl, rfl, g10, g11⟩ := open_agg2 Tryz.underlying29 (by kernel_rfl) cellsP2R (hval 2 29 v2 rfl rfl) h2
  obtain ⟨x1, z0, rfl, wx1⟩ := DataW.trod_int Tryz.underlying2 g10
  obtain ⟨y1, z1, rfl, wy1⟩ := DataW.trod_int Tryz.underlying2 g11
  simp at z0 z1
  subst z0 z1
  obtain ⟨kd, rfl, -, -, wkd⟩ := open_int Tryz.underlying5 (hval 3 5 v3 rfl rfl) h3
  clear hA0 hval0 hA
  have hkd : 0 ≤ kd ∧ kd ≤ 255 := by simp [Lit.wf, IntKind.min, IntKind.max, IntKind.signed, IntKind.bits] at wkd; omega
  obtain ⟨kn, rfl⟩ : ∃ kn : Nat, kd = kn := ⟨kd.toNat, by omega⟩
  refine (lineSeg_c kn (by omega) l l2 (x1, y1) _ _ W hsl hsl2 hll hll2).mono fun e W' ⟨he, hB⟩ => ?_
  subst he
  have A := trodAll_mk4 (Below.trod laidTrR (by kernel_rfl) (of_decide_eq_true (by kernel_rfl)) k0 hB (fun x hx => k0.elim fun n hn => DataW.trod_lt n _ _ _ hn x hx)) (Below.trod laidTrR (by kernel_rfl) (of_decide_eq_true (by kernel_rfl)) k1 hB (fun x hx => k1.elim fun n hn => DataW.trod_lt n _ _ _ hn x hx)) (Below.trod laidTrR (by kernel_rfl) (of_decide_eq_true (by kernel_rfl)) k2 hB (fun x hx => k2.elim fun n hn => DataW.trod_lt n _ _ _ hn x hx)) (Below.trod laidTrR (by kernel_rfl) (of_decide_eq_true (by kernel_rfl)) k3 hB (fun x hx => k3.elim fun n hn => DataW.trod_lt n _ _ _ hn x hx))
  refine ⟨_, rfl, _, _, _, [], _, [], hW', ?_, A, rfl, hB.frame _, fun h => by cases h⟩
  have u : Tryz.checked.prog.underlying 4 = some .bool := Tryz.underlying4
  exact trodAll_mk1 ⟨1, by simp [DataW.trod, u, Value.cells]⟩

theorem lineSegments_holds : Rows.FnLineSegmentsSaid :=
  OpenClaim.holds_of_wide 5 Tryz.f5 rfl rfl rfl rfl rfl rfl rfl ⟨rfl, rfl, rfl, rfl, rfl⟩ rfl rfl rfl rfl rfl (by kernel_rfl) Tryz.func5 (by kernel_rfl)
    (of_decide_eq_true (by kernel_rfl)) (by unfold Func.isWrapper; first | (rw [if_pos (by decide +kernel)]; kernel_rfl) | (rw [if_neg (by decide +kernel)]; exact ⟨rfl, rfl⟩))
    (fun os started H enc _ => lineSegments_lifted os started H enc)
end Go.Proofs.YtdlcckkphjpeoaaGreat
