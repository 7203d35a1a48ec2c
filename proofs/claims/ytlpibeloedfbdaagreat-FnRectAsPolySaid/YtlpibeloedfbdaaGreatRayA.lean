import Derived.Test.YtlpibeloedfbdaaGreatQE
set_option linter.unusedSimpArgs false
set_option linter.unusedVariables false
namespace Go.Proofs.YtlpibeloedfbdaaGreat
open Go.RowKit PF JR
set_option maxRecDepth 100000 in
set_option maxHeartbeats 1000000 in
theorem ray_1 {ax ay bx bY px py : Nat} {Ax Ay Bx By Px Py : Int} (hax : Rep ax Ax) (hay : Rep ay Ay) (hbx : Rep bx Bx) (hby : Rep bY By) (hpx : Rep px Px) (hpy : Rep py Py) (h1 : Ay < By) (h2 : Py < Ay ∨ By < Py) (w : World) :
    Calls Tryz.prog 106 #[.agg #[fl ax, fl ay, fl bx, fl bY], .agg #[fl px, fl py]] w fun e w' => e = .returned (.agg #[.bool false, .bool false]) ∧ Below w.heap.size w w' := by
  have o1 := oR hpx hax
  have o2 := oR hpx hbx
  have o3 := oR hpy hay
  have o4 := oR hpy hby
  have o5 := oR hay hby
  have o6 := oR hax hbx
  go_enter Tryz.func106, Tryz.ntmps106
  go_wp2
  refine ray_reg (by kernel_rfl) ?_
  intro wc b5 b6 b7 hS
  obtain ⟨hc, hz, c50, c51, c60, c61, c70, c71, z50, z51, n5, n6, n7, n5', n6', n7', n56, n65, n57, n75, hB, hsz, m5, G5, M5⟩ := id hS
  clear G5 M5
  go_wp2
  all_goals
    refine bodyPost_ret (v := .agg #[.bool false, .bool false]) (by simp [results, Tryz.results106, go_sem, hc]) rfl ⟨rfl, ?_⟩
    exact (hB.setCell (by simp; omega) _).setCell (by simp; omega) _

set_option maxRecDepth 100000 in
set_option maxHeartbeats 1000000 in
theorem ray_2 {ax ay bx bY px py : Nat} {Ax Ay Bx By Px Py : Int} (hax : Rep ax Ax) (hay : Rep ay Ay) (hbx : Rep bx Bx) (hby : Rep bY By) (hpx : Rep px Px) (hpy : Rep py Py) (h1 : By < Ay) (h2 : Py < By ∨ Ay < Py) (w : World) :
    Calls Tryz.prog 106 #[.agg #[fl ax, fl ay, fl bx, fl bY], .agg #[fl px, fl py]] w fun e w' => e = .returned (.agg #[.bool false, .bool false]) ∧ Below w.heap.size w w' := by
  have o1 := oR hpx hax
  have o2 := oR hpx hbx
  have o3 := oR hpy hay
  have o4 := oR hpy hby
  have o5 := oR hay hby
  have o6 := oR hax hbx
  go_enter Tryz.func106, Tryz.ntmps106
  go_wp2
  refine ray_reg (by kernel_rfl) ?_
  intro wc b5 b6 b7 hS
  obtain ⟨hc, hz, c50, c51, c60, c61, c70, c71, z50, z51, n5, n6, n7, n5', n6', n7', n56, n65, n57, n75, hB, hsz, m5, G5, M5⟩ := id hS
  clear G5 M5
  go_wp2
  all_goals
    refine bodyPost_ret (v := .agg #[.bool false, .bool false]) (by simp [results, Tryz.results106, go_sem, hc]) rfl ⟨rfl, ?_⟩
    exact (hB.setCell (by simp; omega) _).setCell (by simp; omega) _

set_option maxRecDepth 100000 in
set_option maxHeartbeats 1000000 in
theorem ray_3 {ax ay bx bY px py : Nat} {Ax Ay Bx By Px Py : Int} (hax : Rep ax Ax) (hay : Rep ay Ay) (hbx : Rep bx Bx) (hby : Rep bY By) (hpx : Rep px Px) (hpy : Rep py Py) (h1 : Ay = By) (h2 : Ax = Bx) (h3 : Px = Ax) (h4 : Py = Ay) (w : World) :
    Calls Tryz.prog 106 #[.agg #[fl ax, fl ay, fl bx, fl bY], .agg #[fl px, fl py]] w fun e w' => e = .returned (.agg #[.bool false, .bool true]) ∧ Below w.heap.size w w' := by
  have o1 := oR hpx hax
  have o2 := oR hpx hbx
  have o3 := oR hpy hay
  have o4 := oR hpy hby
  have o5 := oR hay hby
  have o6 := oR hax hbx
  go_enter Tryz.func106, Tryz.ntmps106
  go_wp2
  refine ray_reg (by kernel_rfl) ?_
  intro wc b5 b6 b7 hS
  obtain ⟨hc, hz, c50, c51, c60, c61, c70, c71, z50, z51, n5, n6, n7, n5', n6', n7', n56, n65, n57, n75, hB, hsz, m5, G5, M5⟩ := id hS
  clear G5 M5
  go_wp2
  all_goals
    refine bodyPost_ret (v := .agg #[.bool false, .bool true]) (by simp [results, Tryz.results106, go_sem, hc]) rfl ⟨rfl, ?_⟩
    exact (hB.setCell (by simp; omega) _).setCell (by simp; omega) _

set_option maxRecDepth 100000 in
set_option maxHeartbeats 1000000 in
theorem ray_4a {ax ay bx bY px py : Nat} {Ax Ay Bx By Px Py : Int} (hax : Rep ax Ax) (hay : Rep ay Ay) (hbx : Rep bx Bx) (hby : Rep bY By) (hpx : Rep px Px) (hpy : Rep py Py) (h1 : Ay = By) (h2 : Ax = Bx) (h3 : ¬ Px = Ax) (w : World) :
    Calls Tryz.prog 106 #[.agg #[fl ax, fl ay, fl bx, fl bY], .agg #[fl px, fl py]] w fun e w' => e = .returned (.agg #[.bool false, .bool false]) ∧ Below w.heap.size w w' := by
  have o1 := oR hpx hax
  have o2 := oR hpx hbx
  have o3 := oR hpy hay
  have o4 := oR hpy hby
  have o5 := oR hay hby
  have o6 := oR hax hbx
  go_enter Tryz.func106, Tryz.ntmps106
  go_wp2
  refine ray_reg (by kernel_rfl) ?_
  intro wc b5 b6 b7 hS
  obtain ⟨hc, hz, c50, c51, c60, c61, c70, c71, z50, z51, n5, n6, n7, n5', n6', n7', n56, n65, n57, n75, hB, hsz, m5, G5, M5⟩ := id hS
  clear G5 M5
  go_wp2
  all_goals
    refine bodyPost_ret (v := .agg #[.bool false, .bool false]) (by simp [results, Tryz.results106, go_sem, hc]) rfl ⟨rfl, ?_⟩
    exact (hB.setCell (by simp; omega) _).setCell (by simp; omega) _

set_option maxRecDepth 100000 in
set_option maxHeartbeats 1000000 in
theorem ray_4b {ax ay bx bY px py : Nat} {Ax Ay Bx By Px Py : Int} (hax : Rep ax Ax) (hay : Rep ay Ay) (hbx : Rep bx Bx) (hby : Rep bY By) (hpx : Rep px Px) (hpy : Rep py Py) (h1 : Ay = By) (h2 : Ax = Bx) (h3 : Px = Ax) (h4 : ¬ Py = Ay) (w : World) :
    Calls Tryz.prog 106 #[.agg #[fl ax, fl ay, fl bx, fl bY], .agg #[fl px, fl py]] w fun e w' => e = .returned (.agg #[.bool false, .bool false]) ∧ Below w.heap.size w w' := by
  have o1 := oR hpx hax
  have o2 := oR hpx hbx
  have o3 := oR hpy hay
  have o4 := oR hpy hby
  have o5 := oR hay hby
  have o6 := oR hax hbx
  go_enter Tryz.func106, Tryz.ntmps106
  go_wp2
  refine ray_reg (by kernel_rfl) ?_
  intro wc b5 b6 b7 hS
  obtain ⟨hc, hz, c50, c51, c60, c61, c70, c71, z50, z51, n5, n6, n7, n5', n6', n7', n56, n65, n57, n75, hB, hsz, m5, G5, M5⟩ := id hS
  clear G5 M5
  go_wp2
  all_goals
    refine bodyPost_ret (v := .agg #[.bool false, .bool false]) (by simp [results, Tryz.results106, go_sem, hc]) rfl ⟨rfl, ?_⟩
    exact (hB.setCell (by simp; omega) _).setCell (by simp; omega) _

set_option maxRecDepth 100000 in
set_option maxHeartbeats 1000000 in
theorem ray_5 {ax ay bx bY px py : Nat} {Ax Ay Bx By Px Py : Int} (hax : Rep ax Ax) (hay : Rep ay Ay) (hbx : Rep bx Bx) (hby : Rep bY By) (hpx : Rep px Px) (hpy : Rep py Py) (h1 : Ay = By) (h2 : Ax < Bx) (h3 : Py = By) (h4 : Ax ≤ Px) (h5 : Px ≤ Bx) (w : World) :
    Calls Tryz.prog 106 #[.agg #[fl ax, fl ay, fl bx, fl bY], .agg #[fl px, fl py]] w fun e w' => e = .returned (.agg #[.bool false, .bool true]) ∧ Below w.heap.size w w' := by
  have o1 := oR hpx hax
  have o2 := oR hpx hbx
  have o3 := oR hpy hay
  have o4 := oR hpy hby
  have o5 := oR hay hby
  have o6 := oR hax hbx
  go_enter Tryz.func106, Tryz.ntmps106
  go_wp2
  refine ray_reg (by kernel_rfl) ?_
  intro wc b5 b6 b7 hS
  obtain ⟨hc, hz, c50, c51, c60, c61, c70, c71, z50, z51, n5, n6, n7, n5', n6', n7', n56, n65, n57, n75, hB, hsz, m5, G5, M5⟩ := id hS
  clear G5 M5
  go_wp2
  all_goals
    refine bodyPost_ret (v := .agg #[.bool false, .bool true]) (by simp [results, Tryz.results106, go_sem, hc]) rfl ⟨rfl, ?_⟩
    exact (hB.setCell (by simp; omega) _).setCell (by simp; omega) _

set_option maxRecDepth 100000 in
set_option maxHeartbeats 1000000 in
theorem ray_6 {ax ay bx bY px py : Nat} {Ax Ay Bx By Px Py : Int} (hax : Rep ax Ax) (hay : Rep ay Ay) (hbx : Rep bx Bx) (hby : Rep bY By) (hpx : Rep px Px) (hpy : Rep py Py) (h1 : Ay = By) (h2 : Bx < Ax) (h3 : Py = By) (h4 : Bx ≤ Px) (h5 : Px ≤ Ax) (w : World) :
    Calls Tryz.prog 106 #[.agg #[fl ax, fl ay, fl bx, fl bY], .agg #[fl px, fl py]] w fun e w' => e = .returned (.agg #[.bool false, .bool true]) ∧ Below w.heap.size w w' := by
  have o1 := oR hpx hax
  have o2 := oR hpx hbx
  have o3 := oR hpy hay
  have o4 := oR hpy hby
  have o5 := oR hay hby
  have o6 := oR hax hbx
  go_enter Tryz.func106, Tryz.ntmps106
  go_wp2
  refine ray_reg (by kernel_rfl) ?_
  intro wc b5 b6 b7 hS
  obtain ⟨hc, hz, c50, c51, c60, c61, c70, c71, z50, z51, n5, n6, n7, n5', n6', n7', n56, n65, n57, n75, hB, hsz, m5, G5, M5⟩ := id hS
  clear G5 M5
  go_wp2
  all_goals
    refine bodyPost_ret (v := .agg #[.bool false, .bool true]) (by simp [results, Tryz.results106, go_sem, hc]) rfl ⟨rfl, ?_⟩
    exact (hB.setCell (by simp; omega) _).setCell (by simp; omega) _

set_option maxRecDepth 100000 in
set_option maxHeartbeats 1000000 in
theorem ray_7 {ax ay bx bY px py : Nat} {Ax Ay Bx By Px Py : Int} (hax : Rep ax Ax) (hay : Rep ay Ay) (hbx : Rep bx Bx) (hby : Rep bY By) (hpx : Rep px Px) (hpy : Rep py Py) (h1 : Ay < By) (h2 : Ax = Bx) (h3 : Px = Bx) (h4 : Ay ≤ Py) (h5 : Py ≤ By) (w : World) :
    Calls Tryz.prog 106 #[.agg #[fl ax, fl ay, fl bx, fl bY], .agg #[fl px, fl py]] w fun e w' => e = .returned (.agg #[.bool false, .bool true]) ∧ Below w.heap.size w w' := by
  have o1 := oR hpx hax
  have o2 := oR hpx hbx
  have o3 := oR hpy hay
  have o4 := oR hpy hby
  have o5 := oR hay hby
  have o6 := oR hax hbx
  go_enter Tryz.func106, Tryz.ntmps106
  go_wp2
  refine ray_reg (by kernel_rfl) ?_
  intro wc b5 b6 b7 hS
  obtain ⟨hc, hz, c50, c51, c60, c61, c70, c71, z50, z51, n5, n6, n7, n5', n6', n7', n56, n65, n57, n75, hB, hsz, m5, G5, M5⟩ := id hS
  clear G5 M5
  go_wp2
  all_goals
    refine bodyPost_ret (v := .agg #[.bool false, .bool true]) (by simp [results, Tryz.results106, go_sem, hc]) rfl ⟨rfl, ?_⟩
    exact (hB.setCell (by simp; omega) _).setCell (by simp; omega) _

set_option maxRecDepth 100000 in
set_option maxHeartbeats 1000000 in
theorem ray_8 {ax ay bx bY px py : Nat} {Ax Ay Bx By Px Py : Int} (hax : Rep ax Ax) (hay : Rep ay Ay) (hbx : Rep bx Bx) (hby : Rep bY By) (hpx : Rep px Px) (hpy : Rep py Py) (h1 : By < Ay) (h2 : Ax = Bx) (h3 : Px = Bx) (h4 : By ≤ Py) (h5 : Py ≤ Ay) (w : World) :
    Calls Tryz.prog 106 #[.agg #[fl ax, fl ay, fl bx, fl bY], .agg #[fl px, fl py]] w fun e w' => e = .returned (.agg #[.bool false, .bool true]) ∧ Below w.heap.size w w' := by
  have o1 := oR hpx hax
  have o2 := oR hpx hbx
  have o3 := oR hpy hay
  have o4 := oR hpy hby
  have o5 := oR hay hby
  have o6 := oR hax hbx
  go_enter Tryz.func106, Tryz.ntmps106
  go_wp2
  refine ray_reg (by kernel_rfl) ?_
  intro wc b5 b6 b7 hS
  obtain ⟨hc, hz, c50, c51, c60, c61, c70, c71, z50, z51, n5, n6, n7, n5', n6', n7', n56, n65, n57, n75, hB, hsz, m5, G5, M5⟩ := id hS
  clear G5 M5
  go_wp2
  all_goals
    refine bodyPost_ret (v := .agg #[.bool false, .bool true]) (by simp [results, Tryz.results106, go_sem, hc]) rfl ⟨rfl, ?_⟩
    exact (hB.setCell (by simp; omega) _).setCell (by simp; omega) _

set_option maxRecDepth 100000 in
set_option maxHeartbeats 1000000 in
theorem ray_9 {ax ay bx bY px py : Nat} {Ax Ay Bx By Px Py : Int} (hax : Rep ax Ax) (hay : Rep ay Ay) (hbx : Rep bx Bx) (hby : Rep bY By) (hpx : Rep px Px) (hpy : Rep py Py) (h1 : Ay = By) (h2 : ¬ Ax = Bx) (h3 : ¬ Py = By) (b1 : -16384 ≤ Ax ∧ Ax ≤ 16384 ∧ -16384 ≤ Ay ∧ Ay ≤ 16384 ∧ -16384 ≤ Bx ∧ Bx ≤ 16384 ∧ -16384 ≤ By ∧ By ≤ 16384 ∧ -16384 ≤ Px ∧ Px ≤ 16384 ∧ -16384 ≤ Py ∧ Py ≤ 16384) (w : World) :
    Calls Tryz.prog 106 #[.agg #[fl ax, fl ay, fl bx, fl bY], .agg #[fl px, fl py]] w fun e w' => e = .returned (.agg #[.bool false, .bool false]) ∧ Below w.heap.size w w' := by
  have o1 := oR hpx hax
  have o2 := oR hpx hbx
  have o3 := oR hpy hay
  have o4 := oR hpy hby
  have o5 := oR hay hby
  have o6 := oR hax hbx
  obtain ⟨d1, e1, r1⟩ := sub_rep hpx hax (by omega)
  obtain ⟨d2, e2, r2⟩ := sub_rep hbx hax (by omega)
  obtain ⟨d3, e3, r3⟩ := sub_rep hpy hay (by omega)
  obtain ⟨d4, e4, r4⟩ := sub_rep hby hay (by omega)
  have s1 := runSub (P := Tryz.prog) e1
  have s2 := runSub (P := Tryz.prog) e2
  have s3 := runSub (P := Tryz.prog) e3
  have s4 := runSub (P := Tryz.prog) e4
  obtain ⟨k1, f1, t1⟩ := div_rep r1 r2 (by omega)
  have f2 := div_zero r3 (by rw [h1] at r4; simpa using r4) (by omega)
  have q1 := runQuo (P := Tryz.prog) f1
  have q2 := runQuo (P := Tryz.prog) f2
  have oq := order_inf_right (s := (d3 / 9223372036854775808 % 2 == 1 ^^ d4 / 9223372036854775808 % 2 == 1)) (quo_fin t1 (by omega) (by omega))
  generalize Ieee.double.word (d3 / 9223372036854775808 % 2 == 1 ^^ d4 / 9223372036854775808 % 2 == 1) 9218868437227405312 = k2 at *
  have hq : (FloatKind.f64.format.order k1 k2 == some .eq) = false := by
    have : FloatKind.f64.format.order k1 k2 = _ := oq
    rw [this]
    cases (d3 / 9223372036854775808 % 2 == 1 ^^ d4 / 9223372036854775808 % 2 == 1) <;> rfl
  clear oq t1 r1 r2 r3 r4 e1 e2 e3 e4 f1 f2
  go_enter Tryz.func106, Tryz.ntmps106
  go_wp2
  refine ray_reg (by kernel_rfl) ?_
  intro wc b5 b6 b7 hS
  obtain ⟨hc, hz, c50, c51, c60, c61, c70, c71, z50, z51, n5, n6, n7, n5', n6', n7', n56, n65, n57, n75, hB, hsz, m5, G5, M5⟩ := id hS
  clear G5 M5
  go_wp2_with (simp only [s1, s2, s3, s4, q1, q2])
  refine wp_loop_rounds 1 ?_
  rw [rounds_succ]
  go_wp2
  all_goals
    refine bodyPost_ret (v := .agg #[.bool false, .bool false]) (by simp [results, Tryz.results106, go_sem, hc]) rfl ⟨rfl, ?_⟩
    exact (hB.setCell (by simp; omega) _).setCell (by simp; omega) _

set_option maxRecDepth 100000 in
set_option maxHeartbeats 1000000 in
theorem ray_10a {ax ay bx bY px py : Nat} {Ax Ay Bx By Px Py : Int} (hax : Rep ax Ax) (hay : Rep ay Ay) (hbx : Rep bx Bx) (hby : Rep bY By) (hpx : Rep px Px) (hpy : Rep py Py) (h1 : Ay = By) (h2 : Ax < Bx) (h3 : Py = By) (h4 : Px < Ax) (b1 : -16384 ≤ Ax ∧ Ax ≤ 16384 ∧ -16384 ≤ Ay ∧ Ay ≤ 16384 ∧ -16384 ≤ Bx ∧ Bx ≤ 16384 ∧ -16384 ≤ By ∧ By ≤ 16384 ∧ -16384 ≤ Px ∧ Px ≤ 16384 ∧ -16384 ≤ Py ∧ Py ≤ 16384) (w : World) :
    Calls Tryz.prog 106 #[.agg #[fl ax, fl ay, fl bx, fl bY], .agg #[fl px, fl py]] w fun e w' => e = .returned (.agg #[.bool false, .bool false]) ∧ Below w.heap.size w w' := by
  have o1 := oR hpx hax
  have o2 := oR hpx hbx
  have o3 := oR hpy hay
  have o4 := oR hpy hby
  have o5 := oR hay hby
  have o6 := oR hax hbx
  obtain ⟨d1, e1, r1⟩ := sub_rep hpx hax (by omega)
  obtain ⟨d2, e2, r2⟩ := sub_rep hbx hax (by omega)
  obtain ⟨d3, e3, r3⟩ := sub_rep hpy hay (by omega)
  obtain ⟨d4, e4, r4⟩ := sub_rep hby hay (by omega)
  have s1 := runSub (P := Tryz.prog) e1
  have s2 := runSub (P := Tryz.prog) e2
  have s3 := runSub (P := Tryz.prog) e3
  have s4 := runSub (P := Tryz.prog) e4
  obtain ⟨k1, f1, t1⟩ := div_rep r1 r2 (by omega)
  have f2 := div_nan (by rw [h1, h3] at r3; simpa using r3) (by rw [h1] at r4; simpa using r4)
  have q1 := runQuo (P := Tryz.prog) f1
  have q2 := runQuoNan (P := Tryz.prog) f2
  have hq : ∀ w, (FloatKind.f64.format.order k1 (nanWord d3 d4 w) == some .eq) = false := fun w => by
    have : FloatKind.f64.format.order k1 (nanWord d3 d4 w) = none := (nanWord_nan d3 d4 w k1).2
    rw [this]; rfl
  clear t1 r1 r2 r3 r4 e1 e2 e3 e4 f1 f2
  go_enter Tryz.func106, Tryz.ntmps106
  go_wp2
  refine ray_reg (by kernel_rfl) ?_
  intro wc b5 b6 b7 hS
  obtain ⟨hc, hz, c50, c51, c60, c61, c70, c71, z50, z51, n5, n6, n7, n5', n6', n7', n56, n65, n57, n75, hB, hsz, m5, G5, M5⟩ := id hS
  clear G5 M5
  go_wp2_with (simp only [s1, s2, s3, s4, q1, q2])
  refine wp_loop_rounds 2 ?_
  rw [rounds_succ]
  go_wp2_with fail
  refine ray_next hpy (by omega) (.inr rfl) (by kernel_rfl) rfl rfl hS ?_
  rintro x0 x' wd ⟨hN, hcd, hzd, k50, k51, k60, k61, k70, k71, hBd⟩
  clear c50 c51 c60 c61 c70 c71 z50 z51 hc hz hS
  have p1 := nxt_gt hN hay (by omega)
  have p2 := nxt_gt hN hby (by omega)
  clear hN
  go_wp2
  rw [rounds_succ]
  go_wp2
  all_goals
    refine bodyPost_ret (v := .agg #[.bool false, .bool false]) (by simp [results, Tryz.results106, go_sem, hcd]) rfl ⟨rfl, ?_⟩
    exact (hBd.setCell (by simp; omega) _).setCell (by simp; omega) _

set_option maxRecDepth 100000 in
set_option maxHeartbeats 1000000 in
theorem ray_10b {ax ay bx bY px py : Nat} {Ax Ay Bx By Px Py : Int} (hax : Rep ax Ax) (hay : Rep ay Ay) (hbx : Rep bx Bx) (hby : Rep bY By) (hpx : Rep px Px) (hpy : Rep py Py) (h1 : Ay = By) (h2 : Ax < Bx) (h3 : Py = By) (h4 : Bx < Px) (b1 : -16384 ≤ Ax ∧ Ax ≤ 16384 ∧ -16384 ≤ Ay ∧ Ay ≤ 16384 ∧ -16384 ≤ Bx ∧ Bx ≤ 16384 ∧ -16384 ≤ By ∧ By ≤ 16384 ∧ -16384 ≤ Px ∧ Px ≤ 16384 ∧ -16384 ≤ Py ∧ Py ≤ 16384) (w : World) :
    Calls Tryz.prog 106 #[.agg #[fl ax, fl ay, fl bx, fl bY], .agg #[fl px, fl py]] w fun e w' => e = .returned (.agg #[.bool false, .bool false]) ∧ Below w.heap.size w w' := by
  have o1 := oR hpx hax
  have o2 := oR hpx hbx
  have o3 := oR hpy hay
  have o4 := oR hpy hby
  have o5 := oR hay hby
  have o6 := oR hax hbx
  obtain ⟨d1, e1, r1⟩ := sub_rep hpx hax (by omega)
  obtain ⟨d2, e2, r2⟩ := sub_rep hbx hax (by omega)
  obtain ⟨d3, e3, r3⟩ := sub_rep hpy hay (by omega)
  obtain ⟨d4, e4, r4⟩ := sub_rep hby hay (by omega)
  have s1 := runSub (P := Tryz.prog) e1
  have s2 := runSub (P := Tryz.prog) e2
  have s3 := runSub (P := Tryz.prog) e3
  have s4 := runSub (P := Tryz.prog) e4
  obtain ⟨k1, f1, t1⟩ := div_rep r1 r2 (by omega)
  have f2 := div_nan (by rw [h1, h3] at r3; simpa using r3) (by rw [h1] at r4; simpa using r4)
  have q1 := runQuo (P := Tryz.prog) f1
  have q2 := runQuoNan (P := Tryz.prog) f2
  have hq : ∀ w, (FloatKind.f64.format.order k1 (nanWord d3 d4 w) == some .eq) = false := fun w => by
    have : FloatKind.f64.format.order k1 (nanWord d3 d4 w) = none := (nanWord_nan d3 d4 w k1).2
    rw [this]; rfl
  clear t1 r1 r2 r3 r4 e1 e2 e3 e4 f1 f2
  go_enter Tryz.func106, Tryz.ntmps106
  go_wp2
  refine ray_reg (by kernel_rfl) ?_
  intro wc b5 b6 b7 hS
  obtain ⟨hc, hz, c50, c51, c60, c61, c70, c71, z50, z51, n5, n6, n7, n5', n6', n7', n56, n65, n57, n75, hB, hsz, m5, G5, M5⟩ := id hS
  clear G5 M5
  go_wp2_with (simp only [s1, s2, s3, s4, q1, q2])
  refine wp_loop_rounds 2 ?_
  rw [rounds_succ]
  go_wp2_with fail
  refine ray_next hpy (by omega) (.inr rfl) (by kernel_rfl) rfl rfl hS ?_
  rintro x0 x' wd ⟨hN, hcd, hzd, k50, k51, k60, k61, k70, k71, hBd⟩
  clear c50 c51 c60 c61 c70 c71 z50 z51 hc hz hS
  have p1 := nxt_gt hN hay (by omega)
  have p2 := nxt_gt hN hby (by omega)
  clear hN
  go_wp2
  rw [rounds_succ]
  go_wp2
  all_goals
    refine bodyPost_ret (v := .agg #[.bool false, .bool false]) (by simp [results, Tryz.results106, go_sem, hcd]) rfl ⟨rfl, ?_⟩
    exact (hBd.setCell (by simp; omega) _).setCell (by simp; omega) _

set_option maxRecDepth 100000 in
set_option maxHeartbeats 1000000 in
theorem ray_10c {ax ay bx bY px py : Nat} {Ax Ay Bx By Px Py : Int} (hax : Rep ax Ax) (hay : Rep ay Ay) (hbx : Rep bx Bx) (hby : Rep bY By) (hpx : Rep px Px) (hpy : Rep py Py) (h1 : Ay = By) (h2 : Bx < Ax) (h3 : Py = By) (h4 : Px < Bx) (b1 : -16384 ≤ Ax ∧ Ax ≤ 16384 ∧ -16384 ≤ Ay ∧ Ay ≤ 16384 ∧ -16384 ≤ Bx ∧ Bx ≤ 16384 ∧ -16384 ≤ By ∧ By ≤ 16384 ∧ -16384 ≤ Px ∧ Px ≤ 16384 ∧ -16384 ≤ Py ∧ Py ≤ 16384) (w : World) :
    Calls Tryz.prog 106 #[.agg #[fl ax, fl ay, fl bx, fl bY], .agg #[fl px, fl py]] w fun e w' => e = .returned (.agg #[.bool false, .bool false]) ∧ Below w.heap.size w w' := by
  have o1 := oR hpx hax
  have o2 := oR hpx hbx
  have o3 := oR hpy hay
  have o4 := oR hpy hby
  have o5 := oR hay hby
  have o6 := oR hax hbx
  obtain ⟨d1, e1, r1⟩ := sub_rep hpx hax (by omega)
  obtain ⟨d2, e2, r2⟩ := sub_rep hbx hax (by omega)
  obtain ⟨d3, e3, r3⟩ := sub_rep hpy hay (by omega)
  obtain ⟨d4, e4, r4⟩ := sub_rep hby hay (by omega)
  have s1 := runSub (P := Tryz.prog) e1
  have s2 := runSub (P := Tryz.prog) e2
  have s3 := runSub (P := Tryz.prog) e3
  have s4 := runSub (P := Tryz.prog) e4
  obtain ⟨k1, f1, t1⟩ := div_rep r1 r2 (by omega)
  have f2 := div_nan (by rw [h1, h3] at r3; simpa using r3) (by rw [h1] at r4; simpa using r4)
  have q1 := runQuo (P := Tryz.prog) f1
  have q2 := runQuoNan (P := Tryz.prog) f2
  have hq : ∀ w, (FloatKind.f64.format.order k1 (nanWord d3 d4 w) == some .eq) = false := fun w => by
    have : FloatKind.f64.format.order k1 (nanWord d3 d4 w) = none := (nanWord_nan d3 d4 w k1).2
    rw [this]; rfl
  clear t1 r1 r2 r3 r4 e1 e2 e3 e4 f1 f2
  go_enter Tryz.func106, Tryz.ntmps106
  go_wp2
  refine ray_reg (by kernel_rfl) ?_
  intro wc b5 b6 b7 hS
  obtain ⟨hc, hz, c50, c51, c60, c61, c70, c71, z50, z51, n5, n6, n7, n5', n6', n7', n56, n65, n57, n75, hB, hsz, m5, G5, M5⟩ := id hS
  clear G5 M5
  go_wp2_with (simp only [s1, s2, s3, s4, q1, q2])
  refine wp_loop_rounds 2 ?_
  rw [rounds_succ]
  go_wp2_with fail
  refine ray_next hpy (by omega) (.inr rfl) (by kernel_rfl) rfl rfl hS ?_
  rintro x0 x' wd ⟨hN, hcd, hzd, k50, k51, k60, k61, k70, k71, hBd⟩
  clear c50 c51 c60 c61 c70 c71 z50 z51 hc hz hS
  have p1 := nxt_gt hN hay (by omega)
  have p2 := nxt_gt hN hby (by omega)
  clear hN
  go_wp2
  rw [rounds_succ]
  go_wp2
  all_goals
    refine bodyPost_ret (v := .agg #[.bool false, .bool false]) (by simp [results, Tryz.results106, go_sem, hcd]) rfl ⟨rfl, ?_⟩
    exact (hBd.setCell (by simp; omega) _).setCell (by simp; omega) _

set_option maxRecDepth 100000 in
set_option maxHeartbeats 1000000 in
theorem ray_10d {ax ay bx bY px py : Nat} {Ax Ay Bx By Px Py : Int} (hax : Rep ax Ax) (hay : Rep ay Ay) (hbx : Rep bx Bx) (hby : Rep bY By) (hpx : Rep px Px) (hpy : Rep py Py) (h1 : Ay = By) (h2 : Bx < Ax) (h3 : Py = By) (h4 : Ax < Px) (b1 : -16384 ≤ Ax ∧ Ax ≤ 16384 ∧ -16384 ≤ Ay ∧ Ay ≤ 16384 ∧ -16384 ≤ Bx ∧ Bx ≤ 16384 ∧ -16384 ≤ By ∧ By ≤ 16384 ∧ -16384 ≤ Px ∧ Px ≤ 16384 ∧ -16384 ≤ Py ∧ Py ≤ 16384) (w : World) :
    Calls Tryz.prog 106 #[.agg #[fl ax, fl ay, fl bx, fl bY], .agg #[fl px, fl py]] w fun e w' => e = .returned (.agg #[.bool false, .bool false]) ∧ Below w.heap.size w w' := by
  have o1 := oR hpx hax
  have o2 := oR hpx hbx
  have o3 := oR hpy hay
  have o4 := oR hpy hby
  have o5 := oR hay hby
  have o6 := oR hax hbx
  obtain ⟨d1, e1, r1⟩ := sub_rep hpx hax (by omega)
  obtain ⟨d2, e2, r2⟩ := sub_rep hbx hax (by omega)
  obtain ⟨d3, e3, r3⟩ := sub_rep hpy hay (by omega)
  obtain ⟨d4, e4, r4⟩ := sub_rep hby hay (by omega)
  have s1 := runSub (P := Tryz.prog) e1
  have s2 := runSub (P := Tryz.prog) e2
  have s3 := runSub (P := Tryz.prog) e3
  have s4 := runSub (P := Tryz.prog) e4
  obtain ⟨k1, f1, t1⟩ := div_rep r1 r2 (by omega)
  have f2 := div_nan (by rw [h1, h3] at r3; simpa using r3) (by rw [h1] at r4; simpa using r4)
  have q1 := runQuo (P := Tryz.prog) f1
  have q2 := runQuoNan (P := Tryz.prog) f2
  have hq : ∀ w, (FloatKind.f64.format.order k1 (nanWord d3 d4 w) == some .eq) = false := fun w => by
    have : FloatKind.f64.format.order k1 (nanWord d3 d4 w) = none := (nanWord_nan d3 d4 w k1).2
    rw [this]; rfl
  clear t1 r1 r2 r3 r4 e1 e2 e3 e4 f1 f2
  go_enter Tryz.func106, Tryz.ntmps106
  go_wp2
  refine ray_reg (by kernel_rfl) ?_
  intro wc b5 b6 b7 hS
  obtain ⟨hc, hz, c50, c51, c60, c61, c70, c71, z50, z51, n5, n6, n7, n5', n6', n7', n56, n65, n57, n75, hB, hsz, m5, G5, M5⟩ := id hS
  clear G5 M5
  go_wp2_with (simp only [s1, s2, s3, s4, q1, q2])
  refine wp_loop_rounds 2 ?_
  rw [rounds_succ]
  go_wp2_with fail
  refine ray_next hpy (by omega) (.inr rfl) (by kernel_rfl) rfl rfl hS ?_
  rintro x0 x' wd ⟨hN, hcd, hzd, k50, k51, k60, k61, k70, k71, hBd⟩
  clear c50 c51 c60 c61 c70 c71 z50 z51 hc hz hS
  have p1 := nxt_gt hN hay (by omega)
  have p2 := nxt_gt hN hby (by omega)
  clear hN
  go_wp2
  rw [rounds_succ]
  go_wp2
  all_goals
    refine bodyPost_ret (v := .agg #[.bool false, .bool false]) (by simp [results, Tryz.results106, go_sem, hcd]) rfl ⟨rfl, ?_⟩
    exact (hBd.setCell (by simp; omega) _).setCell (by simp; omega) _

set_option maxRecDepth 100000 in
set_option maxHeartbeats 1000000 in
theorem ray_up_mid_eq_l {ax ay bx bY px py : Nat} {Ax Ay Bx By Px Py : Int} (hax : Rep ax Ax) (hay : Rep ay Ay) (hbx : Rep bx Bx) (hby : Rep bY By) (hpx : Rep px Px) (hpy : Rep py Py) (h1 : Ay < By) (h2 : Ax = Bx) (h3 : Ay < Py ∧ Py < By) (hx : Px < Ax) (b1 : -16384 ≤ Ax ∧ Ax ≤ 16384 ∧ -16384 ≤ Ay ∧ Ay ≤ 16384 ∧ -16384 ≤ Bx ∧ Bx ≤ 16384 ∧ -16384 ≤ By ∧ By ≤ 16384 ∧ -16384 ≤ Px ∧ Px ≤ 16384 ∧ -16384 ≤ Py ∧ Py ≤ 16384) (w : World) :
    Calls Tryz.prog 106 #[.agg #[fl ax, fl ay, fl bx, fl bY], .agg #[fl px, fl py]] w fun e w' => e = .returned (.agg #[.bool true, .bool false]) ∧ Below w.heap.size w w' := by
  have o1 := oR hpx hax
  have o2 := oR hpx hbx
  have o3 := oR hpy hay
  have o4 := oR hpy hby
  have o5 := oR hay hby
  have o6 := oR hax hbx
  obtain ⟨d1, e1, r1⟩ := sub_rep hpx hax (by omega)
  obtain ⟨d2, e2, r2⟩ := sub_rep hbx hax (by omega)
  obtain ⟨d3, e3, r3⟩ := sub_rep hpy hay (by omega)
  obtain ⟨d4, e4, r4⟩ := sub_rep hby hay (by omega)
  have s1 := runSub (P := Tryz.prog) e1
  have s2 := runSub (P := Tryz.prog) e2
  have s3 := runSub (P := Tryz.prog) e3
  have s4 := runSub (P := Tryz.prog) e4
  obtain ⟨k2, f2, t2⟩ := div_rep r3 r4 (by omega)
  have f1 := div_zero r1 (by rw [h2] at r2; simpa using r2) (by omega)
  have q1 := runQuo (P := Tryz.prog) f1
  have q2 := runQuo (P := Tryz.prog) f2
  have oq := order_inf_left (s := (d1 / 9223372036854775808 % 2 == 1 ^^ d2 / 9223372036854775808 % 2 == 1)) (quo_fin t2 (by omega) (by omega))
  generalize Ieee.double.word (d1 / 9223372036854775808 % 2 == 1 ^^ d2 / 9223372036854775808 % 2 == 1) 9218868437227405312 = k1 at *
  have hq : (FloatKind.f64.format.order k1 k2 == some .eq) = false := by
    have : FloatKind.f64.format.order k1 k2 = _ := oq
    rw [this]
    cases (d1 / 9223372036854775808 % 2 == 1 ^^ d2 / 9223372036854775808 % 2 == 1) <;> rfl
  clear oq
  clear t2 r1 r2 r3 r4 e1 e2 e3 e4 f1 f2
  go_enter Tryz.func106, Tryz.ntmps106
  go_wp2
  refine ray_reg (by kernel_rfl) ?_
  intro wc b5 b6 b7 hS
  obtain ⟨hc, hz, c50, c51, c60, c61, c70, c71, z50, z51, n5, n6, n7, n5', n6', n7', n56, n65, n57, n75, hB, hsz, m5, G5, M5⟩ := id hS
  clear G5 M5
  go_wp2_with (simp only [s1, s2, s3, s4, q1, q2])
  refine wp_loop_rounds 1 ?_
  rw [rounds_succ]
  go_wp2_with (simp only [s1, s2, s3, s4, q1, q2])
  all_goals
    refine bodyPost_ret (v := .agg #[.bool true, .bool false]) (by simp [results, Tryz.results106, go_sem, hc]) rfl ⟨rfl, ?_⟩
    exact (hB.setCell (by simp; omega) _).setCell (by simp; omega) _

set_option maxRecDepth 100000 in
set_option maxHeartbeats 1000000 in
theorem ray_up_mid_eq_r {ax ay bx bY px py : Nat} {Ax Ay Bx By Px Py : Int} (hax : Rep ax Ax) (hay : Rep ay Ay) (hbx : Rep bx Bx) (hby : Rep bY By) (hpx : Rep px Px) (hpy : Rep py Py) (h1 : Ay < By) (h2 : Ax = Bx) (h3 : Ay < Py ∧ Py < By) (hx : Ax < Px) (b1 : -16384 ≤ Ax ∧ Ax ≤ 16384 ∧ -16384 ≤ Ay ∧ Ay ≤ 16384 ∧ -16384 ≤ Bx ∧ Bx ≤ 16384 ∧ -16384 ≤ By ∧ By ≤ 16384 ∧ -16384 ≤ Px ∧ Px ≤ 16384 ∧ -16384 ≤ Py ∧ Py ≤ 16384) (w : World) :
    Calls Tryz.prog 106 #[.agg #[fl ax, fl ay, fl bx, fl bY], .agg #[fl px, fl py]] w fun e w' => e = .returned (.agg #[.bool false, .bool false]) ∧ Below w.heap.size w w' := by
  have o1 := oR hpx hax
  have o2 := oR hpx hbx
  have o3 := oR hpy hay
  have o4 := oR hpy hby
  have o5 := oR hay hby
  have o6 := oR hax hbx
  obtain ⟨d1, e1, r1⟩ := sub_rep hpx hax (by omega)
  obtain ⟨d2, e2, r2⟩ := sub_rep hbx hax (by omega)
  obtain ⟨d3, e3, r3⟩ := sub_rep hpy hay (by omega)
  obtain ⟨d4, e4, r4⟩ := sub_rep hby hay (by omega)
  have s1 := runSub (P := Tryz.prog) e1
  have s2 := runSub (P := Tryz.prog) e2
  have s3 := runSub (P := Tryz.prog) e3
  have s4 := runSub (P := Tryz.prog) e4
  obtain ⟨k2, f2, t2⟩ := div_rep r3 r4 (by omega)
  have f1 := div_zero r1 (by rw [h2] at r2; simpa using r2) (by omega)
  have q1 := runQuo (P := Tryz.prog) f1
  have q2 := runQuo (P := Tryz.prog) f2
  have oq := order_inf_left (s := (d1 / 9223372036854775808 % 2 == 1 ^^ d2 / 9223372036854775808 % 2 == 1)) (quo_fin t2 (by omega) (by omega))
  generalize Ieee.double.word (d1 / 9223372036854775808 % 2 == 1 ^^ d2 / 9223372036854775808 % 2 == 1) 9218868437227405312 = k1 at *
  have hq : (FloatKind.f64.format.order k1 k2 == some .eq) = false := by
    have : FloatKind.f64.format.order k1 k2 = _ := oq
    rw [this]
    cases (d1 / 9223372036854775808 % 2 == 1 ^^ d2 / 9223372036854775808 % 2 == 1) <;> rfl
  clear oq
  clear t2 r1 r2 r3 r4 e1 e2 e3 e4 f1 f2
  go_enter Tryz.func106, Tryz.ntmps106
  go_wp2
  refine ray_reg (by kernel_rfl) ?_
  intro wc b5 b6 b7 hS
  obtain ⟨hc, hz, c50, c51, c60, c61, c70, c71, z50, z51, n5, n6, n7, n5', n6', n7', n56, n65, n57, n75, hB, hsz, m5, G5, M5⟩ := id hS
  clear G5 M5
  go_wp2_with (simp only [s1, s2, s3, s4, q1, q2])
  refine wp_loop_rounds 1 ?_
  rw [rounds_succ]
  go_wp2_with (simp only [s1, s2, s3, s4, q1, q2])
  all_goals
    refine bodyPost_ret (v := .agg #[.bool false, .bool false]) (by simp [results, Tryz.results106, go_sem, hc]) rfl ⟨rfl, ?_⟩
    exact (hB.setCell (by simp; omega) _).setCell (by simp; omega) _
end Go.Proofs.YtlpibeloedfbdaaGreat
