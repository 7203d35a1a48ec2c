/-
  Proved: FnTurnRaycast returns true for every input, and leaves its arguments as they were. No conditions.
-/
import Derived.Test.YtkaoldmdikljiaaRows
import Derived.Test.YtkaoldmdikljiaaTr
import Derived.ProofKit
import Derived.Lib.SmallJoins
import Derived.Carry
set_option linter.unusedSimpArgs false
set_option linter.unusedVariables false
namespace Go.Proofs.Ytkaoldmdikljiaa
open Go.ChangeShapes Go.WideShapes Go.ChangeAt Go.RowKit Go.Joins

theorem ownTr : ownKnob Try.prog.godebug = none := by kernel_rfl
theorem laidTr : laidOutB Try.prog = true := by kernel_rfl
theorem cellsV : Try.prog.cellsOf 23 = 4 := by kernel_rfl
theorem cellsP2 : Try.prog.cellsOf 25 = 2 := by kernel_rfl

set_option maxRecDepth 100000 in
theorem turnRay_lifted (os : Os) (started : os.Started) (H : Type) (enc : TypeId × Value → H) :
    ReturnsInHanded {} Try.checked os 4 .any (Rows.fnTurnRaycastSpec.pre6 enc Try.prog Try.f4 Rows.fnTurnRaycastRow.domain false) (Rows.fnTurnRaycastSpec.post enc Try.prog Try.f4 false true false false) := by
  refine returnsInHanded_of_change (C := Try.checked) ownTr started (by kernel_rfl) Try.func4
    (ChangeSpec.witness6 (enc := enc) (C := Try.checked) false ⟨#[], #[.agg #[.int .u8 0, .int .i64 0, .int .i64 0, .int .i64 0], .agg #[.int .i64 0, .int .i64 0], .agg #[.int .i64 0, .int .i64 0], .agg #[.int .i64 0, .int .i64 0]], []⟩ 8 (by kernel_rfl) (by kernel_rfl) (by kernel_rfl) (by kernel_rfl)) ?_
  intro W base args ds gs before hval0 hW hcnd _
  have hval : ∀ (j : Nat) t v, Try.f4.params[j]? = some t → args[j]? = some v → Value.okWide Try.prog W .any base t v := hval0
  have hW' := hW
  obtain ⟨p, q, hA0, hV, rfl, hfz, hnd⟩ := hW
  have hA : DataW.TrodAll enc Try.prog W 0 (fun _ => true) true Try.f4.params.toList args.toList ds p := hA0
  rw [Try.params4] at hA hval
  have hA1 := hA
  obtain ⟨v0, r0, d0, e0, p0, q0, hv0, rfl, rfl, h0, hA1⟩ := trodAll_cons hA1
  obtain ⟨v1, r1, d1, e1, p1, q1, rfl, rfl, rfl, h1, hA1⟩ := trodAll_cons hA1
  obtain ⟨v2, r2, d2, e2, p2, q2, rfl, rfl, rfl, h2, hA1⟩ := trodAll_cons hA1
  obtain ⟨v3, r3, d3, e3, p3, q3, rfl, rfl, rfl, h3, hA1⟩ := trodAll_cons hA1
  obtain ⟨rfl, rfl, rfl⟩ := trodAll_nil hA1
  obtain rfl : args = #[v0, v1, v2, v3] := by cases args; simp_all
  obtain ⟨rfl, rfl⟩ := trodVars_none hV
  have k0 := h0
  have k1 := h1
  have k2 := h2
  have k3 := h3
  obtain ⟨cK, cS, cX, cY, yK, yS, yX, yY, m0, rfl, rfl, rfl, gK, gS, gX, gY⟩ := open_agg4 Try.underlying23 (by kernel_rfl) cellsV (hval 0 23 v0 rfl rfl) h0
  obtain ⟨K, zK, rfl, wK⟩ := DataW.trod_int Try.underlying5 gK
  obtain ⟨S, zS, rfl, wS⟩ := DataW.trod_int Try.underlying2 gS
  obtain ⟨DX, zX, rfl, wX⟩ := DataW.trod_int Try.underlying2 gX
  obtain ⟨DY, zY, rfl, wY⟩ := DataW.trod_int Try.underlying2 gY
  simp at zK zS zX zY
  subst zK zS zX zY
  obtain ⟨a1, b1, y10, y11, m1, rfl, rfl, rfl, g10, g11⟩ := open_agg2 Try.underlying25 (by kernel_rfl) cellsP2 (hval 1 25 v1 rfl rfl) h1
  obtain ⟨x1, z0, rfl, wx1⟩ := DataW.trod_int Try.underlying2 g10
  obtain ⟨y1, z1, rfl, wy1⟩ := DataW.trod_int Try.underlying2 g11
  simp at z0 z1
  subst z0 z1
  obtain ⟨a2, b2, y20, y21, m2, rfl, rfl, rfl, g20, g21⟩ := open_agg2 Try.underlying25 (by kernel_rfl) cellsP2 (hval 2 25 v2 rfl rfl) h2
  obtain ⟨x2, z0, rfl, wx2⟩ := DataW.trod_int Try.underlying2 g20
  obtain ⟨y2, z1, rfl, wy2⟩ := DataW.trod_int Try.underlying2 g21
  simp at z0 z1
  subst z0 z1
  obtain ⟨a3, b3, y30, y31, m3, rfl, rfl, rfl, g30, g31⟩ := open_agg2 Try.underlying25 (by kernel_rfl) cellsP2 (hval 3 25 v3 rfl rfl) h3
  obtain ⟨x3, z0, rfl, wx3⟩ := DataW.trod_int Try.underlying2 g30
  obtain ⟨y3, z1, rfl, wy3⟩ := DataW.trod_int Try.underlying2 g31
  simp at z0 z1
  subst z0 z1
  clear hA0 hval0 hA
  have hK : 0 ≤ K := by simp [Lit.wf, IntKind.min, IntKind.signed] at wK; omega
  refine (turnRay_c K S DX DY x1 y1 x2 y2 x3 y3 hK W).mono fun e W' ⟨he, hB⟩ => ?_
  subst he
  have A := trodAll_mk4 (Below.trod laidTr (by kernel_rfl) (of_decide_eq_true (by kernel_rfl)) k0 hB (fun x hx => by simp at hx)) (Below.trod laidTr (by kernel_rfl) (of_decide_eq_true (by kernel_rfl)) k1 hB (fun x hx => by simp at hx)) (Below.trod laidTr (by kernel_rfl) (of_decide_eq_true (by kernel_rfl)) k2 hB (fun x hx => by simp at hx)) (Below.trod laidTr (by kernel_rfl) (of_decide_eq_true (by kernel_rfl)) k3 hB (fun x hx => by simp at hx))
  refine ⟨_, rfl, _, _, _, [], _, [], hW', ?_, A, rfl, hB.frame _, fun h => by cases h⟩
  have u : Try.checked.prog.underlying 4 = some .bool := Try.underlying4
  exact trodAll_mk1 ⟨1, by simp [DataW.trod, u, Value.cells]⟩

theorem turnRay_holds : Rows.FnTurnRaycastSaid :=
  OpenClaim.holds_of_wide 4 Try.f4 rfl rfl rfl rfl rfl rfl rfl ⟨rfl, rfl, rfl, rfl, rfl⟩ rfl rfl rfl rfl rfl (by kernel_rfl) Try.func4 (by kernel_rfl)
    (of_decide_eq_true (by kernel_rfl)) (by unfold Func.isWrapper; first | (rw [if_pos (by decide +kernel)]; kernel_rfl) | (rw [if_neg (by decide +kernel)]; exact ⟨rfl, rfl⟩))
    (fun os started H enc _ => turnRay_lifted os started H enc)
end Go.Proofs.Ytkaoldmdikljiaa
