import Derived.Test.YtcoeiimohkofjaaGreatSma
set_option linter.unusedSimpArgs false
set_option linter.unusedVariables false
namespace PF
open Go
@[go_sem] theorem run_cvt {P : Program} {w : World} {src dst : TypeId} {x : Nat} (hs : (P.underlying src).isSome = true) (hd : P.underlying dst = some (.int .i64)) (h : (floatToIntVal .f64 x .i64).isSome = true) :
    (convert src dst (.float .f64 x)).run P w = .ok (.int .i64 ((floatToIntVal .f64 x .i64).getD 0)) w := by
  obtain ⟨r, hr⟩ := Option.isSome_iff_exists.1 h
  rw [hr]; exact run_convert_float_int w src dst .f64 .i64 x r hs hd hr
end PF
namespace Go.Proofs.YtcoeiimohkofjaaGreat
open Go.RowKit PF JR

theorem retB {b c : Bool} {P : Prop} [Decidable P] (h : decide P = c) (h2 : b = true ↔ P) : Ending.returned (.bool b) = .returned (.bool c) := by
  subst h; congr 2; cases b <;> simp_all

theorem rM (n : Int) (hn : n.natAbs ≤ 9007199254740992) (m : Nat) (h : fb n = m) : Rep m n := h ▸ fb_rep n hn

theorem rcp_c {x0 y0 x1 y1 : Nat} {X0 Y0 X1 Y1 : Int} (h1 : Rep x0 X0) (h2 : Rep y0 Y0) (h3 : Rep x1 X1) (h4 : Rep y1 Y1) {px py : Nat} {PX PY : Int} (h5 : Rep px PX) (h6 : Rep py PY) (w : World) :
    Calls Tryz.prog 128 #[.agg #[fl x0, fl y0, fl x1, fl y1], .agg #[fl px, fl py]] w fun e w' => e = .returned (.bool (decide (X0 ≤ PX ∧ PX ≤ X1 ∧ Y0 ≤ PY ∧ PY ≤ Y1))) ∧ Below w.heap.size w w' := by
  generalize hAns : decide (X0 ≤ PX ∧ PX ≤ X1 ∧ Y0 ≤ PY ∧ PY ≤ Y1) = ans
  have o1 := oR h5 h1
  have o2 := oR h5 h3
  have o3 := oR h6 h2
  have o4 := oR h6 h4
  go_enter Tryz.func128, Tryz.ntmps128
  go_wp2
  all_goals
    go_ret
    exact ⟨retB hAns (by simp; omega), (((Below.refl _ _).alloc (Nat.le_refl _) _).alloc (by simp) _)⟩

theorem rip_c {x0 y0 x1 y1 : Nat} {X0 Y0 X1 Y1 : Int} (h1 : Rep x0 X0) (h2 : Rep y0 Y0) (h3 : Rep x1 X1) (h4 : Rep y1 Y1) {px py : Nat} {PX PY : Int} (h5 : Rep px PX) (h6 : Rep py PY) (w : World) :
    Calls Tryz.prog 160 #[.agg #[fl x0, fl y0, fl x1, fl y1], .agg #[fl px, fl py]] w fun e w' => e = .returned (.bool (decide (X0 ≤ PX ∧ PX ≤ X1 ∧ Y0 ≤ PY ∧ PY ≤ Y1))) ∧ Below w.heap.size w w' := by
  generalize hAns : decide (X0 ≤ PX ∧ PX ≤ X1 ∧ Y0 ≤ PY ∧ PY ≤ Y1) = ans
  go_enter Tryz.func160, Tryz.ntmps160
  go_wp2_with (first | (go_at_call 128; refine (rcp_c h1 h2 h3 h4 h5 h6 _).mono ?_; rw [hAns]; rintro e w' ⟨rfl, hb⟩))
  go_ret
  exact ⟨rfl, (((Below.refl _ _).alloc (Nat.le_refl _) _).alloc (by simp) _).trans (hb.mono (by simp; omega))⟩

theorem rcr_c {x0 y0 x1 y1 : Nat} {X0 Y0 X1 Y1 : Int} (h1 : Rep x0 X0) (h2 : Rep y0 Y0) (h3 : Rep x1 X1) (h4 : Rep y1 Y1) {u0 v0 u1 v1 : Nat} {U0 V0 U1 V1 : Int} (k1 : Rep u0 U0) (k2 : Rep v0 V0) (k3 : Rep u1 U1) (k4 : Rep v1 V1) (w : World) :
    Calls Tryz.prog 157 #[.agg #[fl x0, fl y0, fl x1, fl y1], .agg #[fl u0, fl v0, fl u1, fl v1]] w fun e w' => e = .returned (.bool (decide (X0 ≤ U0 ∧ U1 ≤ X1 ∧ Y0 ≤ V0 ∧ V1 ≤ Y1))) ∧ Below w.heap.size w w' := by
  generalize hAns : decide (X0 ≤ U0 ∧ U1 ≤ X1 ∧ Y0 ≤ V0 ∧ V1 ≤ Y1) = ans
  have o1 := oR k1 h1
  have o2 := oR k3 h3
  have o3 := oR k2 h2
  have o4 := oR k4 h4
  go_enter Tryz.func157, Tryz.ntmps157
  go_wp2
  all_goals
    go_ret
    exact ⟨retB hAns (by simp; omega), (((Below.refl _ _).alloc (Nat.le_refl _) _).alloc (by simp) _)⟩

theorem rir_c {x0 y0 x1 y1 : Nat} {X0 Y0 X1 Y1 : Int} (h1 : Rep x0 X0) (h2 : Rep y0 Y0) (h3 : Rep x1 X1) (h4 : Rep y1 Y1) {u0 v0 u1 v1 : Nat} {U0 V0 U1 V1 : Int} (k1 : Rep u0 U0) (k2 : Rep v0 V0) (k3 : Rep u1 U1) (k4 : Rep v1 V1) (w : World) :
    Calls Tryz.prog 135 #[.agg #[fl x0, fl y0, fl x1, fl y1], .agg #[fl u0, fl v0, fl u1, fl v1]] w fun e w' => e = .returned (.bool (decide (X0 ≤ U1 ∧ U0 ≤ X1 ∧ Y0 ≤ V1 ∧ V0 ≤ Y1))) ∧ Below w.heap.size w w' := by
  generalize hAns : decide (X0 ≤ U1 ∧ U0 ≤ X1 ∧ Y0 ≤ V1 ∧ V0 ≤ Y1) = ans
  have o1 := oR h2 k4
  have o2 := oR h4 k2
  have o3 := oR h1 k3
  have o4 := oR h3 k1
  go_enter Tryz.func135, Tryz.ntmps135
  go_wp2
  all_goals
    go_ret
    exact ⟨retB hAns (by simp; omega), (((Below.refl _ _).alloc (Nat.le_refl _) _).alloc (by simp) _)⟩

theorem rem_c (x0 y0 x1 y1 : Nat) (w : World) :
    Calls Tryz.prog 158 #[.agg #[fl x0, fl y0, fl x1, fl y1]] w fun e w' => e = .returned (.bool false) ∧ Below w.heap.size w w' := by
  go_enter Tryz.func158, Tryz.ntmps158
  go_wp2
  all_goals
    go_ret
    exact ⟨rfl, by first | exact ((Below.refl _ _).alloc (Nat.le_refl _) _) | exact Below.refl _ _⟩

theorem rcx_c (x0 y0 x1 y1 : Nat) (w : World) :
    Calls Tryz.prog 215 #[.agg #[fl x0, fl y0, fl x1, fl y1]] w fun e w' => e = .returned (.bool true) ∧ Below w.heap.size w w' := by
  go_enter Tryz.func215, Tryz.ntmps215
  go_wp2
  all_goals
    go_ret
    exact ⟨rfl, by first | exact ((Below.refl _ _).alloc (Nat.le_refl _) _) | exact Below.refl _ _⟩


theorem rnp_c (x0 y0 x1 y1 : Nat) (w : World) :
    Calls Tryz.prog 217 #[.agg #[fl x0, fl y0, fl x1, fl y1]] w fun e w' => e = .returned (.int .i64 5) ∧ Below w.heap.size w w' := by
  go_enter Tryz.func217, Tryz.ntmps217
  go_wp2
  all_goals
    go_ret
    exact ⟨rfl, by first | exact ((Below.refl _ _).alloc (Nat.le_refl _) _) | exact Below.refl _ _⟩

theorem rns_c (x0 y0 x1 y1 : Nat) (w : World) :
    Calls Tryz.prog 167 #[.agg #[fl x0, fl y0, fl x1, fl y1]] w fun e w' => e = .returned (.int .i64 4) ∧ Below w.heap.size w w' := by
  go_enter Tryz.func167, Tryz.ntmps167
  go_wp2
  all_goals
    go_ret
    exact ⟨rfl, by first | exact ((Below.refl _ _).alloc (Nat.le_refl _) _) | exact Below.refl _ _⟩


theorem area_c {x0 y0 x1 y1 d e m : Nat} (e1 : FloatKind.f64.format.sub x1 x0 = some d) (e2 : FloatKind.f64.format.sub y1 y0 = some e) (e3 : FloatKind.f64.format.mul d e = some m) (w : World) :
    Calls Tryz.prog 154 #[.agg #[fl x0, fl y0, fl x1, fl y1]] w fun e w' => e = .returned (fl m) ∧ Below w.heap.size w w' := by
  go_enter Tryz.func154, Tryz.ntmps154
  go_wp2
  go_ret
  exact ⟨rfl, ((Below.refl _ _).alloc (Nat.le_refl _) _)⟩




theorem pat0_c (x0 y0 x1 y1 : Nat) (w : World) :
    Calls Tryz.prog 218 #[.agg #[fl x0, fl y0, fl x1, fl y1], .int .i64 0] w fun e w' => e = .returned (.agg #[fl x0, fl y0]) ∧ Below w.heap.size w w' := by
  go_enter Tryz.func218, Tryz.ntmps218
  go_wp2
  exact bodyPost_ret (v := .agg #[fl x0, fl y0]) (by simp [results, Tryz.results218, go_sem]) rfl ⟨rfl, (((Below.refl _ _).alloc (Nat.le_refl _) _).alloc (by simp) _)⟩

theorem pat1_c (x0 y0 x1 y1 : Nat) (w : World) :
    Calls Tryz.prog 218 #[.agg #[fl x0, fl y0, fl x1, fl y1], .int .i64 1] w fun e w' => e = .returned (.agg #[fl x1, fl y0]) ∧ Below w.heap.size w w' := by
  go_enter Tryz.func218, Tryz.ntmps218
  go_wp2
  exact bodyPost_ret (v := .agg #[fl x1, fl y0]) (by simp [results, Tryz.results218, go_sem]) rfl ⟨rfl, (((Below.refl _ _).alloc (Nat.le_refl _) _).alloc (by simp) _)⟩

theorem pat2_c (x0 y0 x1 y1 : Nat) (w : World) :
    Calls Tryz.prog 218 #[.agg #[fl x0, fl y0, fl x1, fl y1], .int .i64 2] w fun e w' => e = .returned (.agg #[fl x1, fl y1]) ∧ Below w.heap.size w w' := by
  go_enter Tryz.func218, Tryz.ntmps218
  go_wp2
  exact bodyPost_ret (v := .agg #[fl x1, fl y1]) (by simp [results, Tryz.results218, go_sem]) rfl ⟨rfl, (((Below.refl _ _).alloc (Nat.le_refl _) _).alloc (by simp) _)⟩

theorem pat3_c (x0 y0 x1 y1 : Nat) (w : World) :
    Calls Tryz.prog 218 #[.agg #[fl x0, fl y0, fl x1, fl y1], .int .i64 3] w fun e w' => e = .returned (.agg #[fl x0, fl y1]) ∧ Below w.heap.size w w' := by
  go_enter Tryz.func218, Tryz.ntmps218
  go_wp2
  exact bodyPost_ret (v := .agg #[fl x0, fl y1]) (by simp [results, Tryz.results218, go_sem]) rfl ⟨rfl, (((Below.refl _ _).alloc (Nat.le_refl _) _).alloc (by simp) _)⟩

theorem pat4_c (x0 y0 x1 y1 : Nat) (w : World) :
    Calls Tryz.prog 218 #[.agg #[fl x0, fl y0, fl x1, fl y1], .int .i64 4] w fun e w' => e = .returned (.agg #[fl x0, fl y0]) ∧ Below w.heap.size w w' := by
  go_enter Tryz.func218, Tryz.ntmps218
  go_wp2
  exact bodyPost_ret (v := .agg #[fl x0, fl y0]) (by simp [results, Tryz.results218, go_sem]) rfl ⟨rfl, (((Below.refl _ _).alloc (Nat.le_refl _) _).alloc (by simp) _)⟩

theorem sat0_c (x0 y0 x1 y1 : Nat) (w : World) :
    Calls Tryz.prog 168 #[.agg #[fl x0, fl y0, fl x1, fl y1], .int .i64 0] w fun e w' => e = .returned (.agg #[fl x0, fl y0, fl x1, fl y0]) ∧ Below w.heap.size w w' := by
  go_enter Tryz.func168, Tryz.ntmps168
  go_wp2
  exact bodyPost_ret (v := .agg #[fl x0, fl y0, fl x1, fl y0]) (by simp [results, Tryz.results168, go_sem]) rfl ⟨rfl, (((Below.refl _ _).alloc (Nat.le_refl _) _).alloc (by simp) _)⟩

theorem sat1_c (x0 y0 x1 y1 : Nat) (w : World) :
    Calls Tryz.prog 168 #[.agg #[fl x0, fl y0, fl x1, fl y1], .int .i64 1] w fun e w' => e = .returned (.agg #[fl x1, fl y0, fl x1, fl y1]) ∧ Below w.heap.size w w' := by
  go_enter Tryz.func168, Tryz.ntmps168
  go_wp2
  exact bodyPost_ret (v := .agg #[fl x1, fl y0, fl x1, fl y1]) (by simp [results, Tryz.results168, go_sem]) rfl ⟨rfl, (((Below.refl _ _).alloc (Nat.le_refl _) _).alloc (by simp) _)⟩

theorem sat2_c (x0 y0 x1 y1 : Nat) (w : World) :
    Calls Tryz.prog 168 #[.agg #[fl x0, fl y0, fl x1, fl y1], .int .i64 2] w fun e w' => e = .returned (.agg #[fl x1, fl y1, fl x0, fl y1]) ∧ Below w.heap.size w w' := by
  go_enter Tryz.func168, Tryz.ntmps168
  go_wp2
  exact bodyPost_ret (v := .agg #[fl x1, fl y1, fl x0, fl y1]) (by simp [results, Tryz.results168, go_sem]) rfl ⟨rfl, (((Below.refl _ _).alloc (Nat.le_refl _) _).alloc (by simp) _)⟩

theorem sat3_c (x0 y0 x1 y1 : Nat) (w : World) :
    Calls Tryz.prog 168 #[.agg #[fl x0, fl y0, fl x1, fl y1], .int .i64 3] w fun e w' => e = .returned (.agg #[fl x0, fl y1, fl x0, fl y0]) ∧ Below w.heap.size w w' := by
  go_enter Tryz.func168, Tryz.ntmps168
  go_wp2
  exact bodyPost_ret (v := .agg #[fl x0, fl y1, fl x0, fl y0]) (by simp [results, Tryz.results168, go_sem]) rfl ⟨rfl, (((Below.refl _ _).alloc (Nat.le_refl _) _).alloc (by simp) _)⟩

end Go.Proofs.YtcoeiimohkofjaaGreat
