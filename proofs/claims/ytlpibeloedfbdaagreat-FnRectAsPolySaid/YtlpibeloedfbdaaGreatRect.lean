import Derived.Test.YtlpibeloedfbdaaGreatSma
set_option linter.unusedSimpArgs false
set_option linter.unusedVariables false
namespace PF
open Go
@[go_sem] theorem run_cvt {P : Program} {w : World} {src dst : TypeId} {x : Nat} (hs : (P.underlying src).isSome = true) (hd : P.underlying dst = some (.int .i64)) (h : (floatToIntVal .f64 x .i64).isSome = true) :
    (convert src dst (.float .f64 x)).run P w = .ok (.int .i64 ((floatToIntVal .f64 x .i64).getD 0)) w := by
  obtain ⟨r, hr⟩ := Option.isSome_iff_exists.1 h
  rw [hr]; exact run_convert_float_int w src dst .f64 .i64 x r hs hd hr
end PF
namespace Go.Proofs.YtlpibeloedfbdaaGreat
open Go.RowKit PF JR

theorem retB {b c : Bool} {P : Prop} [Decidable P] (h : decide P = c) (h2 : b = true ↔ P) : Ending.returned (.bool b) = .returned (.bool c) := by
  subst h; congr 2; cases b <;> simp_all

theorem rM (n : Int) (hn : n.natAbs ≤ 9007199254740992) (m : Nat) (h : fb n = m) : Rep m n := h ▸ fb_rep n hn

theorem rcp_c {x0 y0 x1 y1 : Nat} {X0 Y0 X1 Y1 : Int} (h1 : Rep x0 X0) (h2 : Rep y0 Y0) (h3 : Rep x1 X1) (h4 : Rep y1 Y1) {px py : Nat} {PX PY : Int} (h5 : Rep px PX) (h6 : Rep py PY) (w : World) :
    Calls Tryz.prog 22 #[.agg #[fl x0, fl y0, fl x1, fl y1], .agg #[fl px, fl py]] w fun e w' => e = .returned (.bool (decide (X0 ≤ PX ∧ PX ≤ X1 ∧ Y0 ≤ PY ∧ PY ≤ Y1))) ∧ Below w.heap.size w w' := by
  generalize hAns : decide (X0 ≤ PX ∧ PX ≤ X1 ∧ Y0 ≤ PY ∧ PY ≤ Y1) = ans
  have o1 := oR h5 h1
  have o2 := oR h5 h3
  have o3 := oR h6 h2
  have o4 := oR h6 h4
  go_enter Tryz.func22, Tryz.ntmps22
  go_wp2
  all_goals
    go_ret
    exact ⟨retB hAns (by simp; omega), (((Below.refl _ _).alloc (Nat.le_refl _) _).alloc (by simp) _)⟩

theorem rip_c {x0 y0 x1 y1 : Nat} {X0 Y0 X1 Y1 : Int} (h1 : Rep x0 X0) (h2 : Rep y0 Y0) (h3 : Rep x1 X1) (h4 : Rep y1 Y1) {px py : Nat} {PX PY : Int} (h5 : Rep px PX) (h6 : Rep py PY) (w : World) :
    Calls Tryz.prog 23 #[.agg #[fl x0, fl y0, fl x1, fl y1], .agg #[fl px, fl py]] w fun e w' => e = .returned (.bool (decide (X0 ≤ PX ∧ PX ≤ X1 ∧ Y0 ≤ PY ∧ PY ≤ Y1))) ∧ Below w.heap.size w w' := by
  generalize hAns : decide (X0 ≤ PX ∧ PX ≤ X1 ∧ Y0 ≤ PY ∧ PY ≤ Y1) = ans
  go_enter Tryz.func23, Tryz.ntmps23
  go_wp2_with (first | (go_at_call 22; refine (rcp_c h1 h2 h3 h4 h5 h6 _).mono ?_; rw [hAns]; rintro e w' ⟨rfl, hb⟩))
  go_ret
  exact ⟨rfl, (((Below.refl _ _).alloc (Nat.le_refl _) _).alloc (by simp) _).trans (hb.mono (by simp; omega))⟩

theorem rcr_c {x0 y0 x1 y1 : Nat} {X0 Y0 X1 Y1 : Int} (h1 : Rep x0 X0) (h2 : Rep y0 Y0) (h3 : Rep x1 X1) (h4 : Rep y1 Y1) {u0 v0 u1 v1 : Nat} {U0 V0 U1 V1 : Int} (k1 : Rep u0 U0) (k2 : Rep v0 V0) (k3 : Rep u1 U1) (k4 : Rep v1 V1) (w : World) :
    Calls Tryz.prog 24 #[.agg #[fl x0, fl y0, fl x1, fl y1], .agg #[fl u0, fl v0, fl u1, fl v1]] w fun e w' => e = .returned (.bool (decide (X0 ≤ U0 ∧ U1 ≤ X1 ∧ Y0 ≤ V0 ∧ V1 ≤ Y1))) ∧ Below w.heap.size w w' := by
  generalize hAns : decide (X0 ≤ U0 ∧ U1 ≤ X1 ∧ Y0 ≤ V0 ∧ V1 ≤ Y1) = ans
  have o1 := oR k1 h1
  have o2 := oR k3 h3
  have o3 := oR k2 h2
  have o4 := oR k4 h4
  go_enter Tryz.func24, Tryz.ntmps24
  go_wp2
  all_goals
    go_ret
    exact ⟨retB hAns (by simp; omega), (((Below.refl _ _).alloc (Nat.le_refl _) _).alloc (by simp) _)⟩

theorem rir_c {x0 y0 x1 y1 : Nat} {X0 Y0 X1 Y1 : Int} (h1 : Rep x0 X0) (h2 : Rep y0 Y0) (h3 : Rep x1 X1) (h4 : Rep y1 Y1) {u0 v0 u1 v1 : Nat} {U0 V0 U1 V1 : Int} (k1 : Rep u0 U0) (k2 : Rep v0 V0) (k3 : Rep u1 U1) (k4 : Rep v1 V1) (w : World) :
    Calls Tryz.prog 25 #[.agg #[fl x0, fl y0, fl x1, fl y1], .agg #[fl u0, fl v0, fl u1, fl v1]] w fun e w' => e = .returned (.bool (decide (X0 ≤ U1 ∧ U0 ≤ X1 ∧ Y0 ≤ V1 ∧ V0 ≤ Y1))) ∧ Below w.heap.size w w' := by
  generalize hAns : decide (X0 ≤ U1 ∧ U0 ≤ X1 ∧ Y0 ≤ V1 ∧ V0 ≤ Y1) = ans
  have o1 := oR h2 k4
  have o2 := oR h4 k2
  have o3 := oR h1 k3
  have o4 := oR h3 k1
  go_enter Tryz.func25, Tryz.ntmps25
  go_wp2
  all_goals
    go_ret
    exact ⟨retB hAns (by simp; omega), (((Below.refl _ _).alloc (Nat.le_refl _) _).alloc (by simp) _)⟩

theorem rem_c (x0 y0 x1 y1 : Nat) (w : World) :
    Calls Tryz.prog 26 #[.agg #[fl x0, fl y0, fl x1, fl y1]] w fun e w' => e = .returned (.bool false) ∧ Below w.heap.size w w' := by
  go_enter Tryz.func26, Tryz.ntmps26
  go_wp2
  all_goals
    go_ret
    exact ⟨rfl, by first | exact ((Below.refl _ _).alloc (Nat.le_refl _) _) | exact Below.refl _ _⟩

theorem rcx_c (x0 y0 x1 y1 : Nat) (w : World) :
    Calls Tryz.prog 28 #[.agg #[fl x0, fl y0, fl x1, fl y1]] w fun e w' => e = .returned (.bool true) ∧ Below w.heap.size w w' := by
  go_enter Tryz.func28, Tryz.ntmps28
  go_wp2
  all_goals
    go_ret
    exact ⟨rfl, by first | exact ((Below.refl _ _).alloc (Nat.le_refl _) _) | exact Below.refl _ _⟩

theorem rcw_c (x0 y0 x1 y1 : Nat) (w : World) :
    Calls Tryz.prog 29 #[.agg #[fl x0, fl y0, fl x1, fl y1]] w fun e w' => e = .returned (.bool false) ∧ Below w.heap.size w w' := by
  go_enter Tryz.func29, Tryz.ntmps29
  go_wp2
  all_goals
    go_ret
    exact ⟨rfl, by first | exact ((Below.refl _ _).alloc (Nat.le_refl _) _) | exact Below.refl _ _⟩

theorem rnp_c (x0 y0 x1 y1 : Nat) (w : World) :
    Calls Tryz.prog 32 #[.agg #[fl x0, fl y0, fl x1, fl y1]] w fun e w' => e = .returned (.int .i64 5) ∧ Below w.heap.size w w' := by
  go_enter Tryz.func32, Tryz.ntmps32
  go_wp2
  all_goals
    go_ret
    exact ⟨rfl, by first | exact ((Below.refl _ _).alloc (Nat.le_refl _) _) | exact Below.refl _ _⟩

theorem rns_c (x0 y0 x1 y1 : Nat) (w : World) :
    Calls Tryz.prog 35 #[.agg #[fl x0, fl y0, fl x1, fl y1]] w fun e w' => e = .returned (.int .i64 4) ∧ Below w.heap.size w w' := by
  go_enter Tryz.func35, Tryz.ntmps35
  go_wp2
  all_goals
    go_ret
    exact ⟨rfl, by first | exact ((Below.refl _ _).alloc (Nat.le_refl _) _) | exact Below.refl _ _⟩


theorem area_c {x0 y0 x1 y1 d e m : Nat} (e1 : FloatKind.f64.format.sub x1 x0 = some d) (e2 : FloatKind.f64.format.sub y1 y0 = some e) (e3 : FloatKind.f64.format.mul d e = some m) (w : World) :
    Calls Tryz.prog 30 #[.agg #[fl x0, fl y0, fl x1, fl y1]] w fun e w' => e = .returned (fl m) ∧ Below w.heap.size w w' := by
  go_enter Tryz.func30, Tryz.ntmps30
  go_wp2
  go_ret
  exact ⟨rfl, ((Below.refl _ _).alloc (Nat.le_refl _) _)⟩

theorem cen_c {x0 y0 x1 y1 d e p q : Nat} (e1 : FloatKind.f64.format.add x1 x0 = some d) (e2 : FloatKind.f64.format.add y1 y0 = some e) (e3 : FloatKind.f64.format.div d 4611686018427387904 = some p) (e4 : FloatKind.f64.format.div e 4611686018427387904 = some q) (w : World) :
    Calls Tryz.prog 31 #[.agg #[fl x0, fl y0, fl x1, fl y1]] w fun e w' => e = .returned (.agg #[fl p, fl q]) ∧ Below w.heap.size w w' := by
  go_enter Tryz.func31, Tryz.ntmps31
  go_wp2
  exact bodyPost_ret (v := .agg #[fl p, fl q]) (by simp [results, Tryz.results31, go_sem]) rfl ⟨rfl, (((Below.refl _ _).alloc (Nat.le_refl _) _).alloc (by simp) _)⟩

theorem from_c {px py : Nat} {PX PY : Int} (h5 : Rep px PX) (h6 : Rep py PY) (w : World) :
    Calls Tryz.prog 33 #[.agg #[fl px, fl py]] w fun e w' => e = .returned (.agg #[.int .i64 PX, .int .i64 PY]) ∧ Below w.heap.size w w' := by
  have t1 := toInt_rep h5
  have t2 := toInt_rep h6
  go_enter Tryz.func33, Tryz.ntmps33
  go_wp2
  exact bodyPost_ret (v := .agg #[.int .i64 PX, .int .i64 PY]) (by simp [results, Tryz.results33, go_sem]) rfl ⟨rfl, (((Below.refl _ _).alloc (Nat.le_refl _) _).alloc (by simp) _)⟩

theorem rval_c {x0 y0 x1 y1 : Nat} {X0 Y0 X1 Y1 : Int} (h1 : Rep x0 X0) (h2 : Rep y0 Y0) (h3 : Rep x1 X1) (h4 : Rep y1 Y1) (w : World) :
    Calls Tryz.prog 27 #[.agg #[fl x0, fl y0, fl x1, fl y1]] w fun e w' => e = .returned (.bool (decide (-180 ≤ X0 ∧ X0 ≤ 180 ∧ -90 ≤ Y0 ∧ Y0 ≤ 90 ∧ -180 ≤ X1 ∧ X1 ≤ 180 ∧ -90 ≤ Y1 ∧ Y1 ≤ 90))) ∧ Below w.heap.size w w' := by
  generalize hAns : decide (-180 ≤ X0 ∧ X0 ≤ 180 ∧ -90 ≤ Y0 ∧ Y0 ≤ 90 ∧ -180 ≤ X1 ∧ X1 ≤ 180 ∧ -90 ≤ Y1 ∧ Y1 ≤ 90) = ans
  have o1 := oR h1 (rM (-180) (by decide) 13863909240395005952 (by decide +kernel))
  have o2 := oR h1 (rM 180 (by decide) 4640537203540230144 (by decide +kernel))
  have o3 := oR h2 (rM (-90) (by decide) 13859405640767635456 (by decide +kernel))
  have o4 := oR h2 (rM 90 (by decide) 4636033603912859648 (by decide +kernel))
  have o5 := oR h3 (rM (-180) (by decide) 13863909240395005952 (by decide +kernel))
  have o6 := oR h3 (rM 180 (by decide) 4640537203540230144 (by decide +kernel))
  have o7 := oR h4 (rM (-90) (by decide) 13859405640767635456 (by decide +kernel))
  have o8 := oR h4 (rM 90 (by decide) 4636033603912859648 (by decide +kernel))
  go_enter Tryz.func27, Tryz.ntmps27
  go_wp2
  all_goals
    go_ret
    exact ⟨retB hAns (by simp; omega), by repeat first | exact Below.refl _ _ | refine Below.alloc ?_ (by simp <;> omega) _⟩

theorem pat0_c (x0 y0 x1 y1 : Nat) (w : World) :
    Calls Tryz.prog 34 #[.agg #[fl x0, fl y0, fl x1, fl y1], .int .i64 0] w fun e w' => e = .returned (.agg #[fl x0, fl y0]) ∧ Below w.heap.size w w' := by
  go_enter Tryz.func34, Tryz.ntmps34
  go_wp2
  exact bodyPost_ret (v := .agg #[fl x0, fl y0]) (by simp [results, Tryz.results34, go_sem]) rfl ⟨rfl, (((Below.refl _ _).alloc (Nat.le_refl _) _).alloc (by simp) _)⟩

theorem pat1_c (x0 y0 x1 y1 : Nat) (w : World) :
    Calls Tryz.prog 34 #[.agg #[fl x0, fl y0, fl x1, fl y1], .int .i64 1] w fun e w' => e = .returned (.agg #[fl x1, fl y0]) ∧ Below w.heap.size w w' := by
  go_enter Tryz.func34, Tryz.ntmps34
  go_wp2
  exact bodyPost_ret (v := .agg #[fl x1, fl y0]) (by simp [results, Tryz.results34, go_sem]) rfl ⟨rfl, (((Below.refl _ _).alloc (Nat.le_refl _) _).alloc (by simp) _)⟩

theorem pat2_c (x0 y0 x1 y1 : Nat) (w : World) :
    Calls Tryz.prog 34 #[.agg #[fl x0, fl y0, fl x1, fl y1], .int .i64 2] w fun e w' => e = .returned (.agg #[fl x1, fl y1]) ∧ Below w.heap.size w w' := by
  go_enter Tryz.func34, Tryz.ntmps34
  go_wp2
  exact bodyPost_ret (v := .agg #[fl x1, fl y1]) (by simp [results, Tryz.results34, go_sem]) rfl ⟨rfl, (((Below.refl _ _).alloc (Nat.le_refl _) _).alloc (by simp) _)⟩

theorem pat3_c (x0 y0 x1 y1 : Nat) (w : World) :
    Calls Tryz.prog 34 #[.agg #[fl x0, fl y0, fl x1, fl y1], .int .i64 3] w fun e w' => e = .returned (.agg #[fl x0, fl y1]) ∧ Below w.heap.size w w' := by
  go_enter Tryz.func34, Tryz.ntmps34
  go_wp2
  exact bodyPost_ret (v := .agg #[fl x0, fl y1]) (by simp [results, Tryz.results34, go_sem]) rfl ⟨rfl, (((Below.refl _ _).alloc (Nat.le_refl _) _).alloc (by simp) _)⟩

theorem pat4_c (x0 y0 x1 y1 : Nat) (w : World) :
    Calls Tryz.prog 34 #[.agg #[fl x0, fl y0, fl x1, fl y1], .int .i64 4] w fun e w' => e = .returned (.agg #[fl x0, fl y0]) ∧ Below w.heap.size w w' := by
  go_enter Tryz.func34, Tryz.ntmps34
  go_wp2
  exact bodyPost_ret (v := .agg #[fl x0, fl y0]) (by simp [results, Tryz.results34, go_sem]) rfl ⟨rfl, (((Below.refl _ _).alloc (Nat.le_refl _) _).alloc (by simp) _)⟩

theorem sat0_c (x0 y0 x1 y1 : Nat) (w : World) :
    Calls Tryz.prog 36 #[.agg #[fl x0, fl y0, fl x1, fl y1], .int .i64 0] w fun e w' => e = .returned (.agg #[fl x0, fl y0, fl x1, fl y0]) ∧ Below w.heap.size w w' := by
  go_enter Tryz.func36, Tryz.ntmps36
  go_wp2
  exact bodyPost_ret (v := .agg #[fl x0, fl y0, fl x1, fl y0]) (by simp [results, Tryz.results36, go_sem]) rfl ⟨rfl, (((Below.refl _ _).alloc (Nat.le_refl _) _).alloc (by simp) _)⟩

theorem sat1_c (x0 y0 x1 y1 : Nat) (w : World) :
    Calls Tryz.prog 36 #[.agg #[fl x0, fl y0, fl x1, fl y1], .int .i64 1] w fun e w' => e = .returned (.agg #[fl x1, fl y0, fl x1, fl y1]) ∧ Below w.heap.size w w' := by
  go_enter Tryz.func36, Tryz.ntmps36
  go_wp2
  exact bodyPost_ret (v := .agg #[fl x1, fl y0, fl x1, fl y1]) (by simp [results, Tryz.results36, go_sem]) rfl ⟨rfl, (((Below.refl _ _).alloc (Nat.le_refl _) _).alloc (by simp) _)⟩

theorem sat2_c (x0 y0 x1 y1 : Nat) (w : World) :
    Calls Tryz.prog 36 #[.agg #[fl x0, fl y0, fl x1, fl y1], .int .i64 2] w fun e w' => e = .returned (.agg #[fl x1, fl y1, fl x0, fl y1]) ∧ Below w.heap.size w w' := by
  go_enter Tryz.func36, Tryz.ntmps36
  go_wp2
  exact bodyPost_ret (v := .agg #[fl x1, fl y1, fl x0, fl y1]) (by simp [results, Tryz.results36, go_sem]) rfl ⟨rfl, (((Below.refl _ _).alloc (Nat.le_refl _) _).alloc (by simp) _)⟩

theorem sat3_c (x0 y0 x1 y1 : Nat) (w : World) :
    Calls Tryz.prog 36 #[.agg #[fl x0, fl y0, fl x1, fl y1], .int .i64 3] w fun e w' => e = .returned (.agg #[fl x0, fl y1, fl x0, fl y0]) ∧ Below w.heap.size w w' := by
  go_enter Tryz.func36, Tryz.ntmps36
  go_wp2
  exact bodyPost_ret (v := .agg #[fl x0, fl y1, fl x0, fl y0]) (by simp [results, Tryz.results36, go_sem]) rfl ⟨rfl, (((Below.refl _ _).alloc (Nat.le_refl _) _).alloc (by simp) _)⟩

end Go.Proofs.YtlpibeloedfbdaaGreat
