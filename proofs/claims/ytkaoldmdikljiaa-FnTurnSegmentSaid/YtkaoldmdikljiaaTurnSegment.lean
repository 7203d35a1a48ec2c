/-
  Proved: FnTurnSegment returns true for every input, and leaves its arguments as they were. No conditions.
-/
import Derived.Test.YtkaoldmdikljiaaRows
import Derived.Test.YtkaoldmdikljiaaTs
import Derived.ProofKit
import Derived.Lib.SmallJoins
import Derived.Carry
import Derived.OpenShut
set_option linter.unusedSimpArgs false
set_option linter.unusedVariables false
namespace Go.Proofs.Ytkaoldmdikljiaa
open Go.ChangeShapes Go.WideShapes Go.ChangeAt Go.RowKit Go.Joins Go.Deep

section
variable {H : Type} {enc : TypeId × Value → H} {P : Program} {w : World} {base : Nat} {spare : Nat → Bool} {held : Bool}
theorem _root_.PF.open_arr22 {r : Reach} {b0 : Nat} {t e : TypeId} {f0 f1 : Field} {v : Value} {d : DataW H} {p : List MemPlace} (ht : P.underlying t = some (.array 2 e)) (hs : P.underlying e = some (.struct #[f0, f1])) (hone : oneCellFields P #[f0, f1] = true) (hT : P.cellsOf t = 4) (hE : P.cellsOf e = 2)
    (hv : Value.okWide P w r b0 t v) (h : DataW.Trod enc P w base spare held t v d p) :
    ∃ (v0 v1 v2 v3 : Value) (y0 y1 y2 y3 : DataW H × List MemPlace) (n : Nat), v = .agg #[v0, v1, v2, v3] ∧ d = .agg [.agg [y0.1, y1.1], .agg [y2.1, y3.1]] ∧ p = (y0.2 ++ y1.2) ++ (y2.2 ++ y3.2) ∧
      DataW.trod enc P w base spare held n f0.type [v0] = some y0 ∧ DataW.trod enc P w base spare held n f1.type [v1] = some y1 ∧ (∃ m, DataW.trod enc P w base spare held m f0.type [v2] = some y2) ∧ ∃ m, DataW.trod enc P w base spare held m f1.type [v3] = some y3 := by
  simp only [Value.okWide, ht] at hv
  obtain ⟨cs, rfl, hsz, _⟩ := hv
  obtain ⟨c0, c1, c2, c3, rfl⟩ := array4 (hsz.trans hT)
  obtain ⟨fuel, hf⟩ := h
  obtain ⟨xs, m, -, hx, -, hl, hel⟩ := DataW.trod_array ht hf
  have h0 := hel 0 (by decide)
  have h1 := hel 1 (by decide)
  match xs, hl, hx, h0, h1 with
  | [x0, x1], _, hx, h0, h1 =>
    simp [Value.cells, hE] at h0 h1
    obtain ⟨o0, k0⟩ := hone_of hone 0 f0 rfl
    obtain ⟨o1, k1⟩ := hone_of hone 1 f1 rfl
    obtain ⟨y0, y1, n, hx0, _, g0, g1⟩ := trod_struct2 hs h0
    obtain ⟨y2, y3, n', hx1, _, g2, g3⟩ := trod_struct2 hs h1
    simp only [Prod.mk.injEq] at hx
    refine ⟨c0, c1, c2, c3, y0, y1, y2, y3, n, rfl, ?_, ?_, by simpa [o0, k0] using g0, by simpa [o1, k1] using g1, ⟨n', by simpa [o0, k0] using g2⟩, ⟨n', by simpa [o1, k1] using g3⟩⟩
    · rw [hx.1, hx0, hx1]; rfl
    · rw [hx.2, hx0, hx1]; simp
end

theorem ownTrR : ownKnob Try.prog.godebug = none := by kernel_rfl
theorem laidTrR : laidOutB Try.prog = true := by kernel_rfl
theorem cellsVR : Try.prog.cellsOf 23 = 4 := by kernel_rfl
theorem cellsP2R : Try.prog.cellsOf 25 = 2 := by kernel_rfl
theorem cellsA4R : Try.prog.cellsOf 26 = 4 := by kernel_rfl

set_option maxRecDepth 100000 in
theorem turnSeg_lifted (os : Os) (started : os.Started) (H : Type) (enc : TypeId × Value → H) :
    ReturnsInHanded {} Try.checked os 5 .any (Rows.fnTurnSegmentSpec.pre6 enc Try.prog Try.f5 Rows.fnTurnSegmentRow.domain false) (Rows.fnTurnSegmentSpec.post enc Try.prog Try.f5 false true false false) := by
  refine returnsInHanded_of_change (C := Try.checked) ownTrR started (by kernel_rfl) Try.func5
    (ChangeSpec.witness6 (enc := enc) (C := Try.checked) false ⟨#[], #[.agg #[.int .u8 0, .int .i64 0, .int .i64 0, .int .i64 0], .agg #[.int .i64 0, .int .i64 0, .int .i64 0, .int .i64 0], .agg #[.int .i64 0, .int .i64 0, .int .i64 0, .int .i64 0]], []⟩ 8 (by kernel_rfl) (by kernel_rfl) (by kernel_rfl) (by kernel_rfl)) ?_
  intro W base args ds gs before hval0 hW hcnd _
  have hval : ∀ (j : Nat) t v, Try.f5.params[j]? = some t → args[j]? = some v → Value.okWide Try.prog W .any base t v := hval0
  have hW' := hW
  obtain ⟨p, q, hA0, hV, rfl, hfz, hnd⟩ := hW
  have hA : DataW.TrodAll enc Try.prog W 0 (fun _ => true) true Try.f5.params.toList args.toList ds p := hA0
  rw [Try.params5] at hA hval
  have hA1 := hA
  obtain ⟨v0, r0, d0, e0, p0, q0, hv0, rfl, rfl, h0, hA1⟩ := trodAll_cons hA1
  obtain ⟨v1, r1, d1, e1, p1, q1, rfl, rfl, rfl, h1, hA1⟩ := trodAll_cons hA1
  obtain ⟨v2, r2, d2, e2, p2, q2, rfl, rfl, rfl, h2, hA1⟩ := trodAll_cons hA1
  obtain ⟨rfl, rfl, rfl⟩ := trodAll_nil hA1
  obtain rfl : args = #[v0, v1, v2] := by cases args; simp_all
  obtain ⟨rfl, rfl⟩ := trodVars_none hV
  have k0 := h0
  have k1 := h1
  have k2 := h2
  obtain ⟨cK, cS, cX, cY, yK, yS, yX, yY, m0, rfl, rfl, rfl, gK, gS, gX, gY⟩ := open_agg4 Try.underlying23 (by kernel_rfl) cellsVR (hval 0 23 v0 rfl rfl) h0
  obtain ⟨K, zK, rfl, wK⟩ := DataW.trod_int Try.underlying5 gK
  obtain ⟨S, zS, rfl, wS⟩ := DataW.trod_int Try.underlying2 gS
  obtain ⟨DX, zX, rfl, wX⟩ := DataW.trod_int Try.underlying2 gX
  obtain ⟨DY, zY, rfl, wY⟩ := DataW.trod_int Try.underlying2 gY
  simp at zK zS zX zY
  subst zK zS zX zY
  obtain ⟨a1, b1, c1, d1, y10, y11, y12, y13, m1, rfl, rfl, rfl, g10, g11, ⟨mm1, g12⟩, ⟨mn1, g13⟩⟩ := PF.open_arr22 Try.underlying26 Try.underlying25 (by kernel_rfl) cellsA4R cellsP2R (hval 1 26 v1 rfl rfl) h1
  obtain ⟨x1, z0, rfl, wx1⟩ := DataW.trod_int Try.underlying2 g10
  obtain ⟨y1, z1, rfl, wy1⟩ := DataW.trod_int Try.underlying2 g11
  obtain ⟨p1, z2, rfl, wp1⟩ := DataW.trod_int Try.underlying2 g12
  obtain ⟨q1, z3, rfl, wq1⟩ := DataW.trod_int Try.underlying2 g13
  simp at z0 z1 z2 z3
  subst z0 z1 z2 z3
  obtain ⟨a2, b2, c2, d2, y20, y21, y22, y23, m2, rfl, rfl, rfl, g20, g21, ⟨mm2, g22⟩, ⟨mn2, g23⟩⟩ := PF.open_arr22 Try.underlying26 Try.underlying25 (by kernel_rfl) cellsA4R cellsP2R (hval 2 26 v2 rfl rfl) h2
  obtain ⟨x2, z0, rfl, wx2⟩ := DataW.trod_int Try.underlying2 g20
  obtain ⟨y2, z1, rfl, wy2⟩ := DataW.trod_int Try.underlying2 g21
  obtain ⟨p2, z2, rfl, wp2⟩ := DataW.trod_int Try.underlying2 g22
  obtain ⟨q2, z3, rfl, wq2⟩ := DataW.trod_int Try.underlying2 g23
  simp at z0 z1 z2 z3
  subst z0 z1 z2 z3
  clear hA0 hval0 hA
  have hK : 0 ≤ K := by simp [Lit.wf, IntKind.min, IntKind.signed] at wK; omega
  refine (turnSeg_c K S DX DY x1 y1 p1 q1 x2 y2 p2 q2 hK W).mono fun e W' ⟨he, hB⟩ => ?_
  subst he
  have A := trodAll_mk3 (Below.trod laidTrR (by kernel_rfl) (of_decide_eq_true (by kernel_rfl)) k0 hB (fun x hx => by simp at hx)) (Below.trod laidTrR (by kernel_rfl) (of_decide_eq_true (by kernel_rfl)) k1 hB (fun x hx => by simp at hx)) (Below.trod laidTrR (by kernel_rfl) (of_decide_eq_true (by kernel_rfl)) k2 hB (fun x hx => by simp at hx))
  refine ⟨_, rfl, _, _, _, [], _, [], hW', ?_, A, rfl, hB.frame _, fun h => by cases h⟩
  have u : Try.checked.prog.underlying 4 = some .bool := Try.underlying4
  exact trodAll_mk1 ⟨1, by simp [DataW.trod, u, Value.cells]⟩

theorem turnSeg_holds : Rows.FnTurnSegmentSaid :=
  OpenClaim.holds_of_wide 5 Try.f5 rfl rfl rfl rfl rfl rfl rfl ⟨rfl, rfl, rfl, rfl, rfl⟩ rfl rfl rfl rfl rfl (by kernel_rfl) Try.func5 (by kernel_rfl)
    (of_decide_eq_true (by kernel_rfl)) (by unfold Func.isWrapper; first | (rw [if_pos (by decide +kernel)]; kernel_rfl) | (rw [if_neg (by decide +kernel)]; exact ⟨rfl, rfl⟩))
    (fun os started H enc _ => turnSeg_lifted os started H enc)
end Go.Proofs.Ytkaoldmdikljiaa
