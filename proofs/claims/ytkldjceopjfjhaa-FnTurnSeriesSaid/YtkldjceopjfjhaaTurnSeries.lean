/-
  Proved: FnTurnSeries returns true for every input, and leaves its arguments as they were. No conditions.
-/
import Derived.Test.YtkldjceopjfjhaaRows
import Derived.Test.YtkldjceopjfjhaaTn
import Derived.ProofKit
import Derived.Lib.SmallJoins
import Derived.Carry
import Derived.OpenShut
import Derived.Deep.SlicePairs
import Derived.ChangeArms
set_option linter.unusedSimpArgs false
set_option linter.unusedVariables false
namespace Go.Proofs.Ytkldjceopjfjhaa
open Go.ChangeShapes Go.WideShapes Go.ChangeAt Go.RowKit Go.Joins Go.Deep PF

theorem ownTrR : ownKnob Try.prog.godebug = none := by kernel_rfl
theorem laidTrR : laidOutB Try.prog = true := by kernel_rfl
theorem cellsVR : Try.prog.cellsOf 40 = 4 := by kernel_rfl
theorem cellsP2R : Try.prog.cellsOf 29 = 2 := by kernel_rfl
theorem cellsSlR : Try.prog.cellsOf 22 = 1 := by kernel_rfl

theorem add_plain {w : World} {a : Addr} {x : Value} (h : w.cell? (a.add 0) = some x) (k : Nat) : a.add k = ⟨a.block, a.off + k, none⟩ := by
  have hs : a.spot = none := by
    cases hh : a.spot with
    | none => rfl
    | some s =>
      unfold World.cell? Addr.add at h
      simp only [if_true] at h
      rw [hh] at h
      cases hb : w.heap[a.block]? with
      | none => simp [hb] at h
      | some o => cases o <;> simp [hb] at h
  obtain ⟨b, o, s⟩ := a
  simp only at hs
  subst hs
  unfold Addr.add
  split
  · simp_all
  · rfl
def ivR : Value → Int
  | .int _ n => n
  | _ => 0
section
variable {H : Type} {enc : TypeId × Value → H} {w : World} {base : Nat} {spare : Nat → Bool} {held : Bool}
theorem slp_of_trod {n : Nat} {v : Value} {x : DataW H × List MemPlace} (h : DataW.trod enc Try.prog w base spare held n 22 [v] = some x) : ∃ l : List (Int × Int), SlP w v l ∧ l.length ≤ 9223372036854775807 := by
  rcases open_slice_pairs Try.underlying22 Try.underlying29 cellsP2R rfl rfl (by kernel_rfl) (by kernel_rfl) h with ⟨h1, -⟩ | ⟨a, len, cap, m, n', V0, V1, D0, D1, P0, P1, h1, -, hl, hm, hmm, -, hi⟩
  · obtain rfl : v = .slice none 0 0 := by simpa using h1
    exact ⟨[], ⟨none, 0, rfl, fun k p hp => by simp at hp⟩, by simp⟩
  · obtain rfl : v = .slice (some a) len cap := by simpa using h1
    have hlm : len ≤ m := by rw [hmm]; split <;> omega
    refine ⟨(List.range len).map fun i => (ivR (V0 i), ivR (V1 i)), ⟨some a, cap, by simp, fun k p hp => ?_⟩, by simp; unfold maxLen at hm; omega⟩
    have hk : k < len := by
      rcases Nat.lt_or_ge k len with h | h
      · exact h
      · rw [List.getElem?_eq_none (by simp; omega)] at hp; cases hp
    obtain rfl : (ivR (V0 k), ivR (V1 k)) = p := by simpa [List.getElem?_map, List.getElem?_range hk] using hp
    obtain ⟨g1, g2, g3, g4⟩ := hi k (by omega)
    obtain ⟨g0, -⟩ := hi 0 (by omega)
    rw [Nat.zero_mul] at g0
    obtain ⟨K0, z0, -, -⟩ := DataW.trod_int Try.underlying2 g3
    obtain ⟨K1, z1, -, -⟩ := DataW.trod_int Try.underlying2 g4
    simp at z0 z1
    rw [add_plain g0] at g1 g2
    refine ⟨a.block, a.off, ?_, ?_, ?_⟩
    · have := add_plain g0 0
      rw [show a.add 0 = a from rfl] at this
      rw [this]
    · rw [g1, z0]; rfl
    · rw [show a.off + k * 2 + 1 = a.off + (k * 2 + 1) from by omega, g2, z1]; rfl
end

set_option maxRecDepth 100000 in
theorem turnSeries_lifted (os : Os) (started : os.Started) (H : Type) (enc : TypeId × Value → H) :
    ReturnsInHanded {} Try.checked os 4 .any (Rows.fnTurnSeriesSpec.pre6 enc Try.prog Try.f4 Rows.fnTurnSeriesRow.domain false) (Rows.fnTurnSeriesSpec.post enc Try.prog Try.f4 false true false false) := by
  refine returnsInHanded_of_change (C := Try.checked) ownTrR started (by kernel_rfl) Try.func4
    (ChangeSpec.witness6 (enc := enc) (C := Try.checked) false ⟨#[], #[.agg #[.int .u8 0, .int .i64 0, .int .i64 0, .int .i64 0], .slice none 0 0, .bool false, .int .u8 0], []⟩ 8 (by kernel_rfl) (by kernel_rfl) (by kernel_rfl) (by kernel_rfl)) ?_
  intro W base args ds gs before hval0 hW hcnd _
  have hval : ∀ (j : Nat) t v, Try.f4.params[j]? = some t → args[j]? = some v → Value.okWide Try.prog W .any base t v := hval0
  have hW' := hW
  obtain ⟨p, q, hA0, hV, rfl, hfz, hnd⟩ := hW
  have hA : DataW.TrodAll enc Try.prog W 0 (fun _ => true) true Try.f4.params.toList args.toList ds p := hA0
  rw [Try.params4] at hA hval
  have hA1 := hA
  obtain ⟨v0, r0, d0, e0, p0, q0, hv0, rfl, rfl, h0, hA1⟩ := trodAll_cons hA1
  obtain ⟨v1, r1, d1, e1, p1, q1, rfl, rfl, rfl, h1, hA1⟩ := trodAll_cons hA1
  obtain ⟨v2, r2, d2, e2, p2, q2, rfl, rfl, rfl, h2, hA1⟩ := trodAll_cons hA1
  obtain ⟨v3, r3, d3, e3, p3, q3, rfl, rfl, rfl, h3, hA1⟩ := trodAll_cons hA1
  obtain ⟨rfl, rfl, rfl⟩ := trodAll_nil hA1
  obtain rfl : args = #[v0, v1, v2, v3] := by cases args; simp_all
  obtain ⟨rfl, rfl⟩ := trodVars_none hV
  have k0 := h0
  have k1 := h1
  have k2 := h2
  have k3 := h3
  obtain ⟨cK, cS, cX, cY, yK, yS, yX, yY, m0, rfl, rfl, rfl, gK, gS, gX, gY⟩ := open_agg4 Try.underlying40 (by kernel_rfl) cellsVR (hval 0 40 v0 rfl rfl) h0
  obtain ⟨K, zK, rfl, wK⟩ := DataW.trod_int Try.underlying5 gK
  obtain ⟨S, zS, rfl, wS⟩ := DataW.trod_int Try.underlying2 gS
  obtain ⟨DX, zX, rfl, wX⟩ := DataW.trod_int Try.underlying2 gX
  obtain ⟨DY, zY, rfl, wY⟩ := DataW.trod_int Try.underlying2 gY
  simp at zK zS zX zY
  subst zK zS zX zY
  obtain ⟨as1, ln1, cp1, rfl⟩ := okWide_slice Try.underlying22 (hval 1 22 v1 rfl rfl)
  obtain ⟨m1, h1⟩ := h1
  obtain ⟨l, hsl, hll⟩ := slp_of_trod h1
  obtain ⟨closed, rfl, -⟩ := open_bool Try.underlying4 (hval 2 4 v2 rfl rfl) h2
  obtain ⟨kd, rfl, -, -, wkd⟩ := open_int Try.underlying5 (hval 3 5 v3 rfl rfl) h3
  clear hA0 hval0 hA
  have hK : 0 ≤ K := by simp [Lit.wf, IntKind.min, IntKind.signed] at wK; omega
  have hkd : 0 ≤ kd ∧ kd ≤ 255 := by simp [Lit.wf, IntKind.min, IntKind.max, IntKind.signed, IntKind.bits] at wkd; omega
  obtain ⟨kn, rfl⟩ : ∃ kn : Nat, kd = kn := ⟨kd.toNat, by omega⟩
  refine (turnSer_c K S DX DY hK kn (by omega) closed l hll _ W hsl).mono fun e W' ⟨he, hB⟩ => ?_
  subst he
  have A := trodAll_mk4 (Below.trod laidTrR (by kernel_rfl) (of_decide_eq_true (by kernel_rfl)) k0 hB (fun x hx => by simp at hx)) (Below.trod laidTrR (by kernel_rfl) (of_decide_eq_true (by kernel_rfl)) k1 hB (fun x hx => k1.elim fun n hn => DataW.trod_lt n _ _ _ hn x hx)) (Below.trod laidTrR (by kernel_rfl) (of_decide_eq_true (by kernel_rfl)) k2 hB (fun x hx => k2.elim fun n hn => DataW.trod_lt n _ _ _ hn x hx)) (Below.trod laidTrR (by kernel_rfl) (of_decide_eq_true (by kernel_rfl)) k3 hB (fun x hx => k3.elim fun n hn => DataW.trod_lt n _ _ _ hn x hx))
  refine ⟨_, rfl, _, _, _, [], _, [], hW', ?_, A, rfl, hB.frame _, fun h => by cases h⟩
  have u : Try.checked.prog.underlying 4 = some .bool := Try.underlying4
  exact trodAll_mk1 ⟨1, by simp [DataW.trod, u, Value.cells]⟩

theorem turnSeries_holds : Rows.FnTurnSeriesSaid :=
  OpenClaim.holds_of_wide 4 Try.f4 rfl rfl rfl rfl rfl rfl rfl ⟨rfl, rfl, rfl, rfl, rfl⟩ rfl rfl rfl rfl rfl (by kernel_rfl) Try.func4 (by kernel_rfl)
    (of_decide_eq_true (by kernel_rfl)) (by unfold Func.isWrapper; first | (rw [if_pos (by decide +kernel)]; kernel_rfl) | (rw [if_neg (by decide +kernel)]; exact ⟨rfl, rfl⟩))
    (fun os started H enc _ => turnSeries_lifted os started H enc)
end Go.Proofs.Ytkldjceopjfjhaa
