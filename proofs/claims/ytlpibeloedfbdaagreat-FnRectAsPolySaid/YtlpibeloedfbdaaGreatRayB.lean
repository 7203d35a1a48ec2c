import Derived.Test.YtlpibeloedfbdaaGreatQE
set_option linter.unusedSimpArgs false
set_option linter.unusedVariables false
namespace Go.Proofs.YtlpibeloedfbdaaGreat
open Go.RowKit PF JR
set_option maxRecDepth 100000 in
set_option maxHeartbeats 1000000 in
theorem ray_up_mid_lt_l {ax ay bx bY px py : Nat} {Ax Ay Bx By Px Py : Int} (hax : Rep ax Ax) (hay : Rep ay Ay) (hbx : Rep bx Bx) (hby : Rep bY By) (hpx : Rep px Px) (hpy : Rep py Py) (h1 : Ay < By) (h2 : Ax < Bx) (h3 : Ay < Py ∧ Py < By) (hx : Px ≤ Ax) (hcr : (Px - Ax) * (By - Ay) ≠ (Py - Ay) * (Bx - Ax)) (b1 : -16384 ≤ Ax ∧ Ax ≤ 16384 ∧ -16384 ≤ Ay ∧ Ay ≤ 16384 ∧ -16384 ≤ Bx ∧ Bx ≤ 16384 ∧ -16384 ≤ By ∧ By ≤ 16384 ∧ -16384 ≤ Px ∧ Px ≤ 16384 ∧ -16384 ≤ Py ∧ Py ≤ 16384) (w : World) :
    Calls Tryz.prog 106 #[.agg #[fl ax, fl ay, fl bx, fl bY], .agg #[fl px, fl py]] w fun e w' => e = .returned (.agg #[.bool true, .bool false]) ∧ Below w.heap.size w w' := by
  have o1 := oR hpx hax
  have o2 := oR hpx hbx
  have o3 := oR hpy hay
  have o4 := oR hpy hby
  have o5 := oR hay hby
  have o6 := oR hax hbx
  obtain ⟨d1, e1, r1⟩ := sub_rep hpx hax (by omega)
  obtain ⟨d2, e2, r2⟩ := sub_rep hbx hax (by omega)
  obtain ⟨d3, e3, r3⟩ := sub_rep hpy hay (by omega)
  obtain ⟨d4, e4, r4⟩ := sub_rep hby hay (by omega)
  have s1 := runSub (P := Tryz.prog) e1
  have s2 := runSub (P := Tryz.prog) e2
  have s3 := runSub (P := Tryz.prog) e3
  have s4 := runSub (P := Tryz.prog) e4
  obtain ⟨k1, f1, t1⟩ := div_rep r1 r2 (by omega)
  obtain ⟨k2, f2, t2⟩ := div_rep r3 r4 (by omega)
  have q1 := runQuo (P := Tryz.prog) f1
  have q2 := runQuo (P := Tryz.prog) f2
  have hq := quo_ne t1 t2 (by omega) (by omega) (by omega) (by omega) (by omega) (by omega) hcr
  clear t1 t2 r1 r2 r3 r4 e1 e2 e3 e4 f1 f2 hcr
  go_enter Tryz.func106, Tryz.ntmps106
  go_wp2
  refine ray_reg (by kernel_rfl) ?_
  intro wc b5 b6 b7 hS
  obtain ⟨hc, hz, c50, c51, c60, c61, c70, c71, z50, z51, n5, n6, n7, n5', n6', n7', n56, n65, n57, n75, hB, hsz, m5, G5, M5⟩ := id hS
  clear G5 M5
  go_wp2_with (simp only [s1, s2, s3, s4, q1, q2])
  refine wp_loop_rounds 1 ?_
  rw [rounds_succ]
  go_wp2_with (simp only [s1, s2, s3, s4, q1, q2])
  all_goals
    refine bodyPost_ret (v := .agg #[.bool true, .bool false]) (by simp [results, Tryz.results106, go_sem, hc]) rfl ⟨rfl, ?_⟩
    exact (hB.setCell (by simp; omega) _).setCell (by simp; omega) _

set_option maxRecDepth 100000 in
set_option maxHeartbeats 1000000 in
theorem ray_up_mid_lt_r {ax ay bx bY px py : Nat} {Ax Ay Bx By Px Py : Int} (hax : Rep ax Ax) (hay : Rep ay Ay) (hbx : Rep bx Bx) (hby : Rep bY By) (hpx : Rep px Px) (hpy : Rep py Py) (h1 : Ay < By) (h2 : Ax < Bx) (h3 : Ay < Py ∧ Py < By) (hx : Bx ≤ Px) (hcr : (Px - Ax) * (By - Ay) ≠ (Py - Ay) * (Bx - Ax)) (b1 : -16384 ≤ Ax ∧ Ax ≤ 16384 ∧ -16384 ≤ Ay ∧ Ay ≤ 16384 ∧ -16384 ≤ Bx ∧ Bx ≤ 16384 ∧ -16384 ≤ By ∧ By ≤ 16384 ∧ -16384 ≤ Px ∧ Px ≤ 16384 ∧ -16384 ≤ Py ∧ Py ≤ 16384) (w : World) :
    Calls Tryz.prog 106 #[.agg #[fl ax, fl ay, fl bx, fl bY], .agg #[fl px, fl py]] w fun e w' => e = .returned (.agg #[.bool false, .bool false]) ∧ Below w.heap.size w w' := by
  have o1 := oR hpx hax
  have o2 := oR hpx hbx
  have o3 := oR hpy hay
  have o4 := oR hpy hby
  have o5 := oR hay hby
  have o6 := oR hax hbx
  obtain ⟨d1, e1, r1⟩ := sub_rep hpx hax (by omega)
  obtain ⟨d2, e2, r2⟩ := sub_rep hbx hax (by omega)
  obtain ⟨d3, e3, r3⟩ := sub_rep hpy hay (by omega)
  obtain ⟨d4, e4, r4⟩ := sub_rep hby hay (by omega)
  have s1 := runSub (P := Tryz.prog) e1
  have s2 := runSub (P := Tryz.prog) e2
  have s3 := runSub (P := Tryz.prog) e3
  have s4 := runSub (P := Tryz.prog) e4
  obtain ⟨k1, f1, t1⟩ := div_rep r1 r2 (by omega)
  obtain ⟨k2, f2, t2⟩ := div_rep r3 r4 (by omega)
  have q1 := runQuo (P := Tryz.prog) f1
  have q2 := runQuo (P := Tryz.prog) f2
  have hq := quo_ne t1 t2 (by omega) (by omega) (by omega) (by omega) (by omega) (by omega) hcr
  clear t1 t2 r1 r2 r3 r4 e1 e2 e3 e4 f1 f2 hcr
  go_enter Tryz.func106, Tryz.ntmps106
  go_wp2
  refine ray_reg (by kernel_rfl) ?_
  intro wc b5 b6 b7 hS
  obtain ⟨hc, hz, c50, c51, c60, c61, c70, c71, z50, z51, n5, n6, n7, n5', n6', n7', n56, n65, n57, n75, hB, hsz, m5, G5, M5⟩ := id hS
  clear G5 M5
  go_wp2_with (simp only [s1, s2, s3, s4, q1, q2])
  refine wp_loop_rounds 1 ?_
  rw [rounds_succ]
  go_wp2_with (simp only [s1, s2, s3, s4, q1, q2])
  all_goals
    refine bodyPost_ret (v := .agg #[.bool false, .bool false]) (by simp [results, Tryz.results106, go_sem, hc]) rfl ⟨rfl, ?_⟩
    exact (hB.setCell (by simp; omega) _).setCell (by simp; omega) _

set_option maxRecDepth 100000 in
set_option maxHeartbeats 1000000 in
theorem ray_up_mid_lt_bt {ax ay bx bY px py : Nat} {Ax Ay Bx By Px Py : Int} (hax : Rep ax Ax) (hay : Rep ay Ay) (hbx : Rep bx Bx) (hby : Rep bY By) (hpx : Rep px Px) (hpy : Rep py Py) (h1 : Ay < By) (h2 : Ax < Bx) (h3 : Ay < Py ∧ Py < By) (hx : Ax < Px) (hy : Px < Bx) (hs : (By - Ay) * (Px - Ax) ≤ (Py - Ay) * (Bx - Ax)) (hcr : (Px - Ax) * (By - Ay) ≠ (Py - Ay) * (Bx - Ax)) (b1 : -16384 ≤ Ax ∧ Ax ≤ 16384 ∧ -16384 ≤ Ay ∧ Ay ≤ 16384 ∧ -16384 ≤ Bx ∧ Bx ≤ 16384 ∧ -16384 ≤ By ∧ By ≤ 16384 ∧ -16384 ≤ Px ∧ Px ≤ 16384 ∧ -16384 ≤ Py ∧ Py ≤ 16384) (w : World) :
    Calls Tryz.prog 106 #[.agg #[fl ax, fl ay, fl bx, fl bY], .agg #[fl px, fl py]] w fun e w' => e = .returned (.agg #[.bool true, .bool false]) ∧ Below w.heap.size w w' := by
  have o1 := oR hpx hax
  have o2 := oR hpx hbx
  have o3 := oR hpy hay
  have o4 := oR hpy hby
  have o5 := oR hay hby
  have o6 := oR hax hbx
  obtain ⟨d1, e1, r1⟩ := sub_rep hpx hax (by omega)
  obtain ⟨d2, e2, r2⟩ := sub_rep hbx hax (by omega)
  obtain ⟨d3, e3, r3⟩ := sub_rep hpy hay (by omega)
  obtain ⟨d4, e4, r4⟩ := sub_rep hby hay (by omega)
  have s1 := runSub (P := Tryz.prog) e1
  have s2 := runSub (P := Tryz.prog) e2
  have s3 := runSub (P := Tryz.prog) e3
  have s4 := runSub (P := Tryz.prog) e4
  obtain ⟨k1, f1, t1⟩ := div_rep r1 r2 (by omega)
  obtain ⟨k2, f2, t2⟩ := div_rep r3 r4 (by omega)
  have q1 := runQuo (P := Tryz.prog) f1
  have q2 := runQuo (P := Tryz.prog) f2
  have hq := quo_ne t1 t2 (by omega) (by omega) (by omega) (by omega) (by omega) (by omega) hcr
  obtain ⟨k3, f3, t3⟩ := div_rep r3 r1 (by omega)
  obtain ⟨k4, f4, t4⟩ := div_rep r4 r2 (by omega)
  have q3 := runQuo (P := Tryz.prog) f3
  have q4 := runQuo (P := Tryz.prog) f4
  have hpos : 0 < (Px - Ax) * (Bx - Ax) := Int.mul_pos (by omega) (by omega)
  have og := quo_ge t3 t4 hpos (by omega) (by omega) (by omega) (by omega) hs
  have ob : (FloatKind.f64.format.order k3 k4 == some .gt || FloatKind.f64.format.order k3 k4 == some .eq) = true := by
    rcases og with h | h <;> rw [h] <;> rfl
  clear og
  clear t1 t2 t3 t4 hpos hs hcr r1 r2 r3 r4 e1 e2 e3 e4 f1 f2 f3 f4
  go_enter Tryz.func106, Tryz.ntmps106
  go_wp2
  refine ray_reg (by kernel_rfl) ?_
  intro wc b5 b6 b7 hS
  obtain ⟨hc, hz, c50, c51, c60, c61, c70, c71, z50, z51, n5, n6, n7, n5', n6', n7', n56, n65, n57, n75, hB, hsz, m5, G5, M5⟩ := id hS
  clear G5 M5
  go_wp2_with (simp only [s1, s2, s3, s4, q1, q2])
  refine wp_loop_rounds 1 ?_
  rw [rounds_succ]
  go_wp2_with (simp only [s1, s2, s3, s4, q3, q4])
  all_goals
    refine bodyPost_ret (v := .agg #[.bool true, .bool false]) (by simp [results, Tryz.results106, go_sem, hc]) rfl ⟨rfl, ?_⟩
    exact (hB.setCell (by simp; omega) _).setCell (by simp; omega) _

set_option maxRecDepth 100000 in
set_option maxHeartbeats 1000000 in
theorem ray_up_mid_lt_bf {ax ay bx bY px py : Nat} {Ax Ay Bx By Px Py : Int} (hax : Rep ax Ax) (hay : Rep ay Ay) (hbx : Rep bx Bx) (hby : Rep bY By) (hpx : Rep px Px) (hpy : Rep py Py) (h1 : Ay < By) (h2 : Ax < Bx) (h3 : Ay < Py ∧ Py < By) (hx : Ax < Px) (hy : Px < Bx) (hs : (Py - Ay) * (Bx - Ax) < (By - Ay) * (Px - Ax)) (hcr : (Px - Ax) * (By - Ay) ≠ (Py - Ay) * (Bx - Ax)) (b1 : -16384 ≤ Ax ∧ Ax ≤ 16384 ∧ -16384 ≤ Ay ∧ Ay ≤ 16384 ∧ -16384 ≤ Bx ∧ Bx ≤ 16384 ∧ -16384 ≤ By ∧ By ≤ 16384 ∧ -16384 ≤ Px ∧ Px ≤ 16384 ∧ -16384 ≤ Py ∧ Py ≤ 16384) (w : World) :
    Calls Tryz.prog 106 #[.agg #[fl ax, fl ay, fl bx, fl bY], .agg #[fl px, fl py]] w fun e w' => e = .returned (.agg #[.bool false, .bool false]) ∧ Below w.heap.size w w' := by
  have o1 := oR hpx hax
  have o2 := oR hpx hbx
  have o3 := oR hpy hay
  have o4 := oR hpy hby
  have o5 := oR hay hby
  have o6 := oR hax hbx
  obtain ⟨d1, e1, r1⟩ := sub_rep hpx hax (by omega)
  obtain ⟨d2, e2, r2⟩ := sub_rep hbx hax (by omega)
  obtain ⟨d3, e3, r3⟩ := sub_rep hpy hay (by omega)
  obtain ⟨d4, e4, r4⟩ := sub_rep hby hay (by omega)
  have s1 := runSub (P := Tryz.prog) e1
  have s2 := runSub (P := Tryz.prog) e2
  have s3 := runSub (P := Tryz.prog) e3
  have s4 := runSub (P := Tryz.prog) e4
  obtain ⟨k1, f1, t1⟩ := div_rep r1 r2 (by omega)
  obtain ⟨k2, f2, t2⟩ := div_rep r3 r4 (by omega)
  have q1 := runQuo (P := Tryz.prog) f1
  have q2 := runQuo (P := Tryz.prog) f2
  have hq := quo_ne t1 t2 (by omega) (by omega) (by omega) (by omega) (by omega) (by omega) hcr
  obtain ⟨k3, f3, t3⟩ := div_rep r3 r1 (by omega)
  obtain ⟨k4, f4, t4⟩ := div_rep r4 r2 (by omega)
  have q3 := runQuo (P := Tryz.prog) f3
  have q4 := runQuo (P := Tryz.prog) f4
  have hpos : 0 < (Px - Ax) * (Bx - Ax) := Int.mul_pos (by omega) (by omega)
  have og := quo_lt' t3 t4 hpos (by omega) (by omega) (by omega) (by omega) hs
  clear t1 t2 t3 t4 hpos hs hcr r1 r2 r3 r4 e1 e2 e3 e4 f1 f2 f3 f4
  go_enter Tryz.func106, Tryz.ntmps106
  go_wp2
  refine ray_reg (by kernel_rfl) ?_
  intro wc b5 b6 b7 hS
  obtain ⟨hc, hz, c50, c51, c60, c61, c70, c71, z50, z51, n5, n6, n7, n5', n6', n7', n56, n65, n57, n75, hB, hsz, m5, G5, M5⟩ := id hS
  clear G5 M5
  go_wp2_with (simp only [s1, s2, s3, s4, q1, q2])
  refine wp_loop_rounds 1 ?_
  rw [rounds_succ]
  go_wp2_with (simp only [s1, s2, s3, s4, q3, q4])
  all_goals
    refine bodyPost_ret (v := .agg #[.bool false, .bool false]) (by simp [results, Tryz.results106, go_sem, hc]) rfl ⟨rfl, ?_⟩
    exact (hB.setCell (by simp; omega) _).setCell (by simp; omega) _

set_option maxRecDepth 100000 in
set_option maxHeartbeats 1000000 in
theorem ray_up_mid_gt_l {ax ay bx bY px py : Nat} {Ax Ay Bx By Px Py : Int} (hax : Rep ax Ax) (hay : Rep ay Ay) (hbx : Rep bx Bx) (hby : Rep bY By) (hpx : Rep px Px) (hpy : Rep py Py) (h1 : Ay < By) (h2 : Bx < Ax) (h3 : Ay < Py ∧ Py < By) (hx : Px ≤ Bx) (hcr : (Px - Ax) * (By - Ay) ≠ (Py - Ay) * (Bx - Ax)) (b1 : -16384 ≤ Ax ∧ Ax ≤ 16384 ∧ -16384 ≤ Ay ∧ Ay ≤ 16384 ∧ -16384 ≤ Bx ∧ Bx ≤ 16384 ∧ -16384 ≤ By ∧ By ≤ 16384 ∧ -16384 ≤ Px ∧ Px ≤ 16384 ∧ -16384 ≤ Py ∧ Py ≤ 16384) (w : World) :
    Calls Tryz.prog 106 #[.agg #[fl ax, fl ay, fl bx, fl bY], .agg #[fl px, fl py]] w fun e w' => e = .returned (.agg #[.bool true, .bool false]) ∧ Below w.heap.size w w' := by
  have o1 := oR hpx hax
  have o2 := oR hpx hbx
  have o3 := oR hpy hay
  have o4 := oR hpy hby
  have o5 := oR hay hby
  have o6 := oR hax hbx
  obtain ⟨d1, e1, r1⟩ := sub_rep hpx hax (by omega)
  obtain ⟨d2, e2, r2⟩ := sub_rep hbx hax (by omega)
  obtain ⟨d3, e3, r3⟩ := sub_rep hpy hay (by omega)
  obtain ⟨d4, e4, r4⟩ := sub_rep hby hay (by omega)
  have s1 := runSub (P := Tryz.prog) e1
  have s2 := runSub (P := Tryz.prog) e2
  have s3 := runSub (P := Tryz.prog) e3
  have s4 := runSub (P := Tryz.prog) e4
  obtain ⟨k1, f1, t1⟩ := div_rep r1 r2 (by omega)
  obtain ⟨k2, f2, t2⟩ := div_rep r3 r4 (by omega)
  have q1 := runQuo (P := Tryz.prog) f1
  have q2 := runQuo (P := Tryz.prog) f2
  have hq := quo_ne t1 t2 (by omega) (by omega) (by omega) (by omega) (by omega) (by omega) hcr
  clear t1 t2 r1 r2 r3 r4 e1 e2 e3 e4 f1 f2 hcr
  go_enter Tryz.func106, Tryz.ntmps106
  go_wp2
  refine ray_reg (by kernel_rfl) ?_
  intro wc b5 b6 b7 hS
  obtain ⟨hc, hz, c50, c51, c60, c61, c70, c71, z50, z51, n5, n6, n7, n5', n6', n7', n56, n65, n57, n75, hB, hsz, m5, G5, M5⟩ := id hS
  clear G5 M5
  go_wp2_with (simp only [s1, s2, s3, s4, q1, q2])
  refine wp_loop_rounds 1 ?_
  rw [rounds_succ]
  go_wp2_with (simp only [s1, s2, s3, s4, q1, q2])
  all_goals
    refine bodyPost_ret (v := .agg #[.bool true, .bool false]) (by simp [results, Tryz.results106, go_sem, hc]) rfl ⟨rfl, ?_⟩
    exact (hB.setCell (by simp; omega) _).setCell (by simp; omega) _

set_option maxRecDepth 100000 in
set_option maxHeartbeats 1000000 in
theorem ray_up_mid_gt_r {ax ay bx bY px py : Nat} {Ax Ay Bx By Px Py : Int} (hax : Rep ax Ax) (hay : Rep ay Ay) (hbx : Rep bx Bx) (hby : Rep bY By) (hpx : Rep px Px) (hpy : Rep py Py) (h1 : Ay < By) (h2 : Bx < Ax) (h3 : Ay < Py ∧ Py < By) (hx : Ax ≤ Px) (hcr : (Px - Ax) * (By - Ay) ≠ (Py - Ay) * (Bx - Ax)) (b1 : -16384 ≤ Ax ∧ Ax ≤ 16384 ∧ -16384 ≤ Ay ∧ Ay ≤ 16384 ∧ -16384 ≤ Bx ∧ Bx ≤ 16384 ∧ -16384 ≤ By ∧ By ≤ 16384 ∧ -16384 ≤ Px ∧ Px ≤ 16384 ∧ -16384 ≤ Py ∧ Py ≤ 16384) (w : World) :
    Calls Tryz.prog 106 #[.agg #[fl ax, fl ay, fl bx, fl bY], .agg #[fl px, fl py]] w fun e w' => e = .returned (.agg #[.bool false, .bool false]) ∧ Below w.heap.size w w' := by
  have o1 := oR hpx hax
  have o2 := oR hpx hbx
  have o3 := oR hpy hay
  have o4 := oR hpy hby
  have o5 := oR hay hby
  have o6 := oR hax hbx
  obtain ⟨d1, e1, r1⟩ := sub_rep hpx hax (by omega)
  obtain ⟨d2, e2, r2⟩ := sub_rep hbx hax (by omega)
  obtain ⟨d3, e3, r3⟩ := sub_rep hpy hay (by omega)
  obtain ⟨d4, e4, r4⟩ := sub_rep hby hay (by omega)
  have s1 := runSub (P := Tryz.prog) e1
  have s2 := runSub (P := Tryz.prog) e2
  have s3 := runSub (P := Tryz.prog) e3
  have s4 := runSub (P := Tryz.prog) e4
  obtain ⟨k1, f1, t1⟩ := div_rep r1 r2 (by omega)
  obtain ⟨k2, f2, t2⟩ := div_rep r3 r4 (by omega)
  have q1 := runQuo (P := Tryz.prog) f1
  have q2 := runQuo (P := Tryz.prog) f2
  have hq := quo_ne t1 t2 (by omega) (by omega) (by omega) (by omega) (by omega) (by omega) hcr
  clear t1 t2 r1 r2 r3 r4 e1 e2 e3 e4 f1 f2 hcr
  go_enter Tryz.func106, Tryz.ntmps106
  go_wp2
  refine ray_reg (by kernel_rfl) ?_
  intro wc b5 b6 b7 hS
  obtain ⟨hc, hz, c50, c51, c60, c61, c70, c71, z50, z51, n5, n6, n7, n5', n6', n7', n56, n65, n57, n75, hB, hsz, m5, G5, M5⟩ := id hS
  clear G5 M5
  go_wp2_with (simp only [s1, s2, s3, s4, q1, q2])
  refine wp_loop_rounds 1 ?_
  rw [rounds_succ]
  go_wp2_with (simp only [s1, s2, s3, s4, q1, q2])
  all_goals
    refine bodyPost_ret (v := .agg #[.bool false, .bool false]) (by simp [results, Tryz.results106, go_sem, hc]) rfl ⟨rfl, ?_⟩
    exact (hB.setCell (by simp; omega) _).setCell (by simp; omega) _

set_option maxRecDepth 100000 in
set_option maxHeartbeats 1000000 in
theorem ray_up_mid_gt_bt {ax ay bx bY px py : Nat} {Ax Ay Bx By Px Py : Int} (hax : Rep ax Ax) (hay : Rep ay Ay) (hbx : Rep bx Bx) (hby : Rep bY By) (hpx : Rep px Px) (hpy : Rep py Py) (h1 : Ay < By) (h2 : Bx < Ax) (h3 : Ay < Py ∧ Py < By) (hx : Bx < Px) (hy : Px < Ax) (hs : (By - Ay) * (Px - Ax) ≤ (Py - Ay) * (Bx - Ax)) (hcr : (Px - Ax) * (By - Ay) ≠ (Py - Ay) * (Bx - Ax)) (b1 : -16384 ≤ Ax ∧ Ax ≤ 16384 ∧ -16384 ≤ Ay ∧ Ay ≤ 16384 ∧ -16384 ≤ Bx ∧ Bx ≤ 16384 ∧ -16384 ≤ By ∧ By ≤ 16384 ∧ -16384 ≤ Px ∧ Px ≤ 16384 ∧ -16384 ≤ Py ∧ Py ≤ 16384) (w : World) :
    Calls Tryz.prog 106 #[.agg #[fl ax, fl ay, fl bx, fl bY], .agg #[fl px, fl py]] w fun e w' => e = .returned (.agg #[.bool true, .bool false]) ∧ Below w.heap.size w w' := by
  have o1 := oR hpx hax
  have o2 := oR hpx hbx
  have o3 := oR hpy hay
  have o4 := oR hpy hby
  have o5 := oR hay hby
  have o6 := oR hax hbx
  obtain ⟨d1, e1, r1⟩ := sub_rep hpx hax (by omega)
  obtain ⟨d2, e2, r2⟩ := sub_rep hbx hax (by omega)
  obtain ⟨d3, e3, r3⟩ := sub_rep hpy hay (by omega)
  obtain ⟨d4, e4, r4⟩ := sub_rep hby hay (by omega)
  have s1 := runSub (P := Tryz.prog) e1
  have s2 := runSub (P := Tryz.prog) e2
  have s3 := runSub (P := Tryz.prog) e3
  have s4 := runSub (P := Tryz.prog) e4
  obtain ⟨k1, f1, t1⟩ := div_rep r1 r2 (by omega)
  obtain ⟨k2, f2, t2⟩ := div_rep r3 r4 (by omega)
  have q1 := runQuo (P := Tryz.prog) f1
  have q2 := runQuo (P := Tryz.prog) f2
  have hq := quo_ne t1 t2 (by omega) (by omega) (by omega) (by omega) (by omega) (by omega) hcr
  obtain ⟨k3, f3, t3⟩ := div_rep r3 r1 (by omega)
  obtain ⟨k4, f4, t4⟩ := div_rep r4 r2 (by omega)
  have q3 := runQuo (P := Tryz.prog) f3
  have q4 := runQuo (P := Tryz.prog) f4
  have hpos : 0 < (Px - Ax) * (Bx - Ax) := Int.mul_pos_of_neg_of_neg (by omega) (by omega)
  have og := quo_ge t3 t4 hpos (by omega) (by omega) (by omega) (by omega) hs
  have ob : (FloatKind.f64.format.order k3 k4 == some .gt || FloatKind.f64.format.order k3 k4 == some .eq) = true := by
    rcases og with h | h <;> rw [h] <;> rfl
  clear og
  clear t1 t2 t3 t4 hpos hs hcr r1 r2 r3 r4 e1 e2 e3 e4 f1 f2 f3 f4
  go_enter Tryz.func106, Tryz.ntmps106
  go_wp2
  refine ray_reg (by kernel_rfl) ?_
  intro wc b5 b6 b7 hS
  obtain ⟨hc, hz, c50, c51, c60, c61, c70, c71, z50, z51, n5, n6, n7, n5', n6', n7', n56, n65, n57, n75, hB, hsz, m5, G5, M5⟩ := id hS
  clear G5 M5
  go_wp2_with (simp only [s1, s2, s3, s4, q1, q2])
  refine wp_loop_rounds 1 ?_
  rw [rounds_succ]
  go_wp2_with (simp only [s1, s2, s3, s4, q3, q4])
  all_goals
    refine bodyPost_ret (v := .agg #[.bool true, .bool false]) (by simp [results, Tryz.results106, go_sem, hc]) rfl ⟨rfl, ?_⟩
    exact (hB.setCell (by simp; omega) _).setCell (by simp; omega) _

set_option maxRecDepth 100000 in
set_option maxHeartbeats 1000000 in
theorem ray_up_mid_gt_bf {ax ay bx bY px py : Nat} {Ax Ay Bx By Px Py : Int} (hax : Rep ax Ax) (hay : Rep ay Ay) (hbx : Rep bx Bx) (hby : Rep bY By) (hpx : Rep px Px) (hpy : Rep py Py) (h1 : Ay < By) (h2 : Bx < Ax) (h3 : Ay < Py ∧ Py < By) (hx : Bx < Px) (hy : Px < Ax) (hs : (Py - Ay) * (Bx - Ax) < (By - Ay) * (Px - Ax)) (hcr : (Px - Ax) * (By - Ay) ≠ (Py - Ay) * (Bx - Ax)) (b1 : -16384 ≤ Ax ∧ Ax ≤ 16384 ∧ -16384 ≤ Ay ∧ Ay ≤ 16384 ∧ -16384 ≤ Bx ∧ Bx ≤ 16384 ∧ -16384 ≤ By ∧ By ≤ 16384 ∧ -16384 ≤ Px ∧ Px ≤ 16384 ∧ -16384 ≤ Py ∧ Py ≤ 16384) (w : World) :
    Calls Tryz.prog 106 #[.agg #[fl ax, fl ay, fl bx, fl bY], .agg #[fl px, fl py]] w fun e w' => e = .returned (.agg #[.bool false, .bool false]) ∧ Below w.heap.size w w' := by
  have o1 := oR hpx hax
  have o2 := oR hpx hbx
  have o3 := oR hpy hay
  have o4 := oR hpy hby
  have o5 := oR hay hby
  have o6 := oR hax hbx
  obtain ⟨d1, e1, r1⟩ := sub_rep hpx hax (by omega)
  obtain ⟨d2, e2, r2⟩ := sub_rep hbx hax (by omega)
  obtain ⟨d3, e3, r3⟩ := sub_rep hpy hay (by omega)
  obtain ⟨d4, e4, r4⟩ := sub_rep hby hay (by omega)
  have s1 := runSub (P := Tryz.prog) e1
  have s2 := runSub (P := Tryz.prog) e2
  have s3 := runSub (P := Tryz.prog) e3
  have s4 := runSub (P := Tryz.prog) e4
  obtain ⟨k1, f1, t1⟩ := div_rep r1 r2 (by omega)
  obtain ⟨k2, f2, t2⟩ := div_rep r3 r4 (by omega)
  have q1 := runQuo (P := Tryz.prog) f1
  have q2 := runQuo (P := Tryz.prog) f2
  have hq := quo_ne t1 t2 (by omega) (by omega) (by omega) (by omega) (by omega) (by omega) hcr
  obtain ⟨k3, f3, t3⟩ := div_rep r3 r1 (by omega)
  obtain ⟨k4, f4, t4⟩ := div_rep r4 r2 (by omega)
  have q3 := runQuo (P := Tryz.prog) f3
  have q4 := runQuo (P := Tryz.prog) f4
  have hpos : 0 < (Px - Ax) * (Bx - Ax) := Int.mul_pos_of_neg_of_neg (by omega) (by omega)
  have og := quo_lt' t3 t4 hpos (by omega) (by omega) (by omega) (by omega) hs
  clear t1 t2 t3 t4 hpos hs hcr r1 r2 r3 r4 e1 e2 e3 e4 f1 f2 f3 f4
  go_enter Tryz.func106, Tryz.ntmps106
  go_wp2
  refine ray_reg (by kernel_rfl) ?_
  intro wc b5 b6 b7 hS
  obtain ⟨hc, hz, c50, c51, c60, c61, c70, c71, z50, z51, n5, n6, n7, n5', n6', n7', n56, n65, n57, n75, hB, hsz, m5, G5, M5⟩ := id hS
  clear G5 M5
  go_wp2_with (simp only [s1, s2, s3, s4, q1, q2])
  refine wp_loop_rounds 1 ?_
  rw [rounds_succ]
  go_wp2_with (simp only [s1, s2, s3, s4, q3, q4])
  all_goals
    refine bodyPost_ret (v := .agg #[.bool false, .bool false]) (by simp [results, Tryz.results106, go_sem, hc]) rfl ⟨rfl, ?_⟩
    exact (hB.setCell (by simp; omega) _).setCell (by simp; omega) _

set_option maxRecDepth 100000 in
set_option maxHeartbeats 1000000 in
theorem ray_up_top_eq_l {ax ay bx bY px py : Nat} {Ax Ay Bx By Px Py : Int} (hax : Rep ax Ax) (hay : Rep ay Ay) (hbx : Rep bx Bx) (hby : Rep bY By) (hpx : Rep px Px) (hpy : Rep py Py) (h1 : Ay < By) (h2 : Ax = Bx) (h3 : Py = By) (hx : Px < Ax) (b1 : -16384 ≤ Ax ∧ Ax ≤ 16384 ∧ -16384 ≤ Ay ∧ Ay ≤ 16384 ∧ -16384 ≤ Bx ∧ Bx ≤ 16384 ∧ -16384 ≤ By ∧ By ≤ 16384 ∧ -16384 ≤ Px ∧ Px ≤ 16384 ∧ -16384 ≤ Py ∧ Py ≤ 16384) (w : World) :
    Calls Tryz.prog 106 #[.agg #[fl ax, fl ay, fl bx, fl bY], .agg #[fl px, fl py]] w fun e w' => e = .returned (.agg #[.bool false, .bool false]) ∧ Below w.heap.size w w' := by
  have o1 := oR hpx hax
  have o2 := oR hpx hbx
  have o3 := oR hpy hay
  have o4 := oR hpy hby
  have o5 := oR hay hby
  have o6 := oR hax hbx
  obtain ⟨d1, e1, r1⟩ := sub_rep hpx hax (by omega)
  obtain ⟨d2, e2, r2⟩ := sub_rep hbx hax (by omega)
  obtain ⟨d3, e3, r3⟩ := sub_rep hpy hay (by omega)
  obtain ⟨d4, e4, r4⟩ := sub_rep hby hay (by omega)
  have s1 := runSub (P := Tryz.prog) e1
  have s2 := runSub (P := Tryz.prog) e2
  have s3 := runSub (P := Tryz.prog) e3
  have s4 := runSub (P := Tryz.prog) e4
  obtain ⟨k2, f2, t2⟩ := div_rep r3 r4 (by omega)
  have f1 := div_zero r1 (by rw [h2] at r2; simpa using r2) (by omega)
  have q1 := runQuo (P := Tryz.prog) f1
  have q2 := runQuo (P := Tryz.prog) f2
  have oq := order_inf_left (s := (d1 / 9223372036854775808 % 2 == 1 ^^ d2 / 9223372036854775808 % 2 == 1)) (quo_fin t2 (by omega) (by omega))
  generalize Ieee.double.word (d1 / 9223372036854775808 % 2 == 1 ^^ d2 / 9223372036854775808 % 2 == 1) 9218868437227405312 = k1 at *
  have hq : (FloatKind.f64.format.order k1 k2 == some .eq) = false := by
    have : FloatKind.f64.format.order k1 k2 = _ := oq
    rw [this]
    cases (d1 / 9223372036854775808 % 2 == 1 ^^ d2 / 9223372036854775808 % 2 == 1) <;> rfl
  clear oq
  clear t2 r1 r2 r3 r4 e1 e2 e3 e4 f1 f2
  go_enter Tryz.func106, Tryz.ntmps106
  go_wp2
  refine ray_reg (by kernel_rfl) ?_
  intro wc b5 b6 b7 hS
  obtain ⟨hc, hz, c50, c51, c60, c61, c70, c71, z50, z51, n5, n6, n7, n5', n6', n7', n56, n65, n57, n75, hB, hsz, m5, G5, M5⟩ := id hS
  clear G5 M5
  go_wp2_with (simp only [s1, s2, s3, s4, q1, q2])
  refine wp_loop_rounds 2 ?_
  rw [rounds_succ]
  go_wp2_with fail
  refine ray_next hpy (by omega) (.inl rfl) (by kernel_rfl) rfl rfl hS ?_
  rintro x0 x' wd ⟨hN, hcd, hzd, k50, k51, k60, k61, k70, k71, hBd⟩
  clear c50 c51 c60 c61 c70 c71 z50 z51 hc hz hS
  have p1 := nxt_gt hN hay (by omega)
  have p2 := nxt_gt hN hby (by omega)
  clear hN
  go_wp2
  rw [rounds_succ]
  go_wp2_with (simp only [Bool.true_eq_false])
  all_goals
    refine bodyPost_ret (v := .agg #[.bool false, .bool false]) (by simp [results, Tryz.results106, go_sem, hcd]) rfl ⟨rfl, ?_⟩
    exact (hBd.setCell (by simp; omega) _).setCell (by simp; omega) _

set_option maxRecDepth 100000 in
set_option maxHeartbeats 1000000 in
theorem ray_up_top_eq_r {ax ay bx bY px py : Nat} {Ax Ay Bx By Px Py : Int} (hax : Rep ax Ax) (hay : Rep ay Ay) (hbx : Rep bx Bx) (hby : Rep bY By) (hpx : Rep px Px) (hpy : Rep py Py) (h1 : Ay < By) (h2 : Ax = Bx) (h3 : Py = By) (hx : Ax < Px) (b1 : -16384 ≤ Ax ∧ Ax ≤ 16384 ∧ -16384 ≤ Ay ∧ Ay ≤ 16384 ∧ -16384 ≤ Bx ∧ Bx ≤ 16384 ∧ -16384 ≤ By ∧ By ≤ 16384 ∧ -16384 ≤ Px ∧ Px ≤ 16384 ∧ -16384 ≤ Py ∧ Py ≤ 16384) (w : World) :
    Calls Tryz.prog 106 #[.agg #[fl ax, fl ay, fl bx, fl bY], .agg #[fl px, fl py]] w fun e w' => e = .returned (.agg #[.bool false, .bool false]) ∧ Below w.heap.size w w' := by
  have o1 := oR hpx hax
  have o2 := oR hpx hbx
  have o3 := oR hpy hay
  have o4 := oR hpy hby
  have o5 := oR hay hby
  have o6 := oR hax hbx
  obtain ⟨d1, e1, r1⟩ := sub_rep hpx hax (by omega)
  obtain ⟨d2, e2, r2⟩ := sub_rep hbx hax (by omega)
  obtain ⟨d3, e3, r3⟩ := sub_rep hpy hay (by omega)
  obtain ⟨d4, e4, r4⟩ := sub_rep hby hay (by omega)
  have s1 := runSub (P := Tryz.prog) e1
  have s2 := runSub (P := Tryz.prog) e2
  have s3 := runSub (P := Tryz.prog) e3
  have s4 := runSub (P := Tryz.prog) e4
  obtain ⟨k2, f2, t2⟩ := div_rep r3 r4 (by omega)
  have f1 := div_zero r1 (by rw [h2] at r2; simpa using r2) (by omega)
  have q1 := runQuo (P := Tryz.prog) f1
  have q2 := runQuo (P := Tryz.prog) f2
  have oq := order_inf_left (s := (d1 / 9223372036854775808 % 2 == 1 ^^ d2 / 9223372036854775808 % 2 == 1)) (quo_fin t2 (by omega) (by omega))
  generalize Ieee.double.word (d1 / 9223372036854775808 % 2 == 1 ^^ d2 / 9223372036854775808 % 2 == 1) 9218868437227405312 = k1 at *
  have hq : (FloatKind.f64.format.order k1 k2 == some .eq) = false := by
    have : FloatKind.f64.format.order k1 k2 = _ := oq
    rw [this]
    cases (d1 / 9223372036854775808 % 2 == 1 ^^ d2 / 9223372036854775808 % 2 == 1) <;> rfl
  clear oq
  clear t2 r1 r2 r3 r4 e1 e2 e3 e4 f1 f2
  go_enter Tryz.func106, Tryz.ntmps106
  go_wp2
  refine ray_reg (by kernel_rfl) ?_
  intro wc b5 b6 b7 hS
  obtain ⟨hc, hz, c50, c51, c60, c61, c70, c71, z50, z51, n5, n6, n7, n5', n6', n7', n56, n65, n57, n75, hB, hsz, m5, G5, M5⟩ := id hS
  clear G5 M5
  go_wp2_with (simp only [s1, s2, s3, s4, q1, q2])
  refine wp_loop_rounds 2 ?_
  rw [rounds_succ]
  go_wp2_with fail
  refine ray_next hpy (by omega) (.inl rfl) (by kernel_rfl) rfl rfl hS ?_
  rintro x0 x' wd ⟨hN, hcd, hzd, k50, k51, k60, k61, k70, k71, hBd⟩
  clear c50 c51 c60 c61 c70 c71 z50 z51 hc hz hS
  have p1 := nxt_gt hN hay (by omega)
  have p2 := nxt_gt hN hby (by omega)
  clear hN
  go_wp2
  rw [rounds_succ]
  go_wp2_with (simp only [Bool.true_eq_false])
  all_goals
    refine bodyPost_ret (v := .agg #[.bool false, .bool false]) (by simp [results, Tryz.results106, go_sem, hcd]) rfl ⟨rfl, ?_⟩
    exact (hBd.setCell (by simp; omega) _).setCell (by simp; omega) _

set_option maxRecDepth 100000 in
set_option maxHeartbeats 1000000 in
theorem ray_up_top_lt {ax ay bx bY px py : Nat} {Ax Ay Bx By Px Py : Int} (hax : Rep ax Ax) (hay : Rep ay Ay) (hbx : Rep bx Bx) (hby : Rep bY By) (hpx : Rep px Px) (hpy : Rep py Py) (h1 : Ay < By) (h2 : Ax < Bx) (h3 : Py = By) (hcr : (Px - Ax) * (By - Ay) ≠ (Py - Ay) * (Bx - Ax)) (b1 : -16384 ≤ Ax ∧ Ax ≤ 16384 ∧ -16384 ≤ Ay ∧ Ay ≤ 16384 ∧ -16384 ≤ Bx ∧ Bx ≤ 16384 ∧ -16384 ≤ By ∧ By ≤ 16384 ∧ -16384 ≤ Px ∧ Px ≤ 16384 ∧ -16384 ≤ Py ∧ Py ≤ 16384) (w : World) :
    Calls Tryz.prog 106 #[.agg #[fl ax, fl ay, fl bx, fl bY], .agg #[fl px, fl py]] w fun e w' => e = .returned (.agg #[.bool false, .bool false]) ∧ Below w.heap.size w w' := by
  have o1 := oR hpx hax
  have o2 := oR hpx hbx
  have o3 := oR hpy hay
  have o4 := oR hpy hby
  have o5 := oR hay hby
  have o6 := oR hax hbx
  obtain ⟨d1, e1, r1⟩ := sub_rep hpx hax (by omega)
  obtain ⟨d2, e2, r2⟩ := sub_rep hbx hax (by omega)
  obtain ⟨d3, e3, r3⟩ := sub_rep hpy hay (by omega)
  obtain ⟨d4, e4, r4⟩ := sub_rep hby hay (by omega)
  have s1 := runSub (P := Tryz.prog) e1
  have s2 := runSub (P := Tryz.prog) e2
  have s3 := runSub (P := Tryz.prog) e3
  have s4 := runSub (P := Tryz.prog) e4
  obtain ⟨k1, f1, t1⟩ := div_rep r1 r2 (by omega)
  obtain ⟨k2, f2, t2⟩ := div_rep r3 r4 (by omega)
  have q1 := runQuo (P := Tryz.prog) f1
  have q2 := runQuo (P := Tryz.prog) f2
  have hq := quo_ne t1 t2 (by omega) (by omega) (by omega) (by omega) (by omega) (by omega) hcr
  clear t1 t2 r1 r2 r3 r4 e1 e2 e3 e4 f1 f2 hcr
  go_enter Tryz.func106, Tryz.ntmps106
  go_wp2
  refine ray_reg (by kernel_rfl) ?_
  intro wc b5 b6 b7 hS
  obtain ⟨hc, hz, c50, c51, c60, c61, c70, c71, z50, z51, n5, n6, n7, n5', n6', n7', n56, n65, n57, n75, hB, hsz, m5, G5, M5⟩ := id hS
  clear G5 M5
  go_wp2_with (simp only [s1, s2, s3, s4, q1, q2])
  refine wp_loop_rounds 2 ?_
  rw [rounds_succ]
  go_wp2_with fail
  refine ray_next hpy (by omega) (.inl rfl) (by kernel_rfl) rfl rfl hS ?_
  rintro x0 x' wd ⟨hN, hcd, hzd, k50, k51, k60, k61, k70, k71, hBd⟩
  clear c50 c51 c60 c61 c70 c71 z50 z51 hc hz hS
  have p1 := nxt_gt hN hay (by omega)
  have p2 := nxt_gt hN hby (by omega)
  clear hN
  go_wp2
  rw [rounds_succ]
  go_wp2_with (simp only [Bool.true_eq_false])
  all_goals
    refine bodyPost_ret (v := .agg #[.bool false, .bool false]) (by simp [results, Tryz.results106, go_sem, hcd]) rfl ⟨rfl, ?_⟩
    exact (hBd.setCell (by simp; omega) _).setCell (by simp; omega) _

set_option maxRecDepth 100000 in
set_option maxHeartbeats 1000000 in
theorem ray_up_top_gt {ax ay bx bY px py : Nat} {Ax Ay Bx By Px Py : Int} (hax : Rep ax Ax) (hay : Rep ay Ay) (hbx : Rep bx Bx) (hby : Rep bY By) (hpx : Rep px Px) (hpy : Rep py Py) (h1 : Ay < By) (h2 : Bx < Ax) (h3 : Py = By) (hcr : (Px - Ax) * (By - Ay) ≠ (Py - Ay) * (Bx - Ax)) (b1 : -16384 ≤ Ax ∧ Ax ≤ 16384 ∧ -16384 ≤ Ay ∧ Ay ≤ 16384 ∧ -16384 ≤ Bx ∧ Bx ≤ 16384 ∧ -16384 ≤ By ∧ By ≤ 16384 ∧ -16384 ≤ Px ∧ Px ≤ 16384 ∧ -16384 ≤ Py ∧ Py ≤ 16384) (w : World) :
    Calls Tryz.prog 106 #[.agg #[fl ax, fl ay, fl bx, fl bY], .agg #[fl px, fl py]] w fun e w' => e = .returned (.agg #[.bool false, .bool false]) ∧ Below w.heap.size w w' := by
  have o1 := oR hpx hax
  have o2 := oR hpx hbx
  have o3 := oR hpy hay
  have o4 := oR hpy hby
  have o5 := oR hay hby
  have o6 := oR hax hbx
  obtain ⟨d1, e1, r1⟩ := sub_rep hpx hax (by omega)
  obtain ⟨d2, e2, r2⟩ := sub_rep hbx hax (by omega)
  obtain ⟨d3, e3, r3⟩ := sub_rep hpy hay (by omega)
  obtain ⟨d4, e4, r4⟩ := sub_rep hby hay (by omega)
  have s1 := runSub (P := Tryz.prog) e1
  have s2 := runSub (P := Tryz.prog) e2
  have s3 := runSub (P := Tryz.prog) e3
  have s4 := runSub (P := Tryz.prog) e4
  obtain ⟨k1, f1, t1⟩ := div_rep r1 r2 (by omega)
  obtain ⟨k2, f2, t2⟩ := div_rep r3 r4 (by omega)
  have q1 := runQuo (P := Tryz.prog) f1
  have q2 := runQuo (P := Tryz.prog) f2
  have hq := quo_ne t1 t2 (by omega) (by omega) (by omega) (by omega) (by omega) (by omega) hcr
  clear t1 t2 r1 r2 r3 r4 e1 e2 e3 e4 f1 f2 hcr
  go_enter Tryz.func106, Tryz.ntmps106
  go_wp2
  refine ray_reg (by kernel_rfl) ?_
  intro wc b5 b6 b7 hS
  obtain ⟨hc, hz, c50, c51, c60, c61, c70, c71, z50, z51, n5, n6, n7, n5', n6', n7', n56, n65, n57, n75, hB, hsz, m5, G5, M5⟩ := id hS
  clear G5 M5
  go_wp2_with (simp only [s1, s2, s3, s4, q1, q2])
  refine wp_loop_rounds 2 ?_
  rw [rounds_succ]
  go_wp2_with fail
  refine ray_next hpy (by omega) (.inl rfl) (by kernel_rfl) rfl rfl hS ?_
  rintro x0 x' wd ⟨hN, hcd, hzd, k50, k51, k60, k61, k70, k71, hBd⟩
  clear c50 c51 c60 c61 c70 c71 z50 z51 hc hz hS
  have p1 := nxt_gt hN hay (by omega)
  have p2 := nxt_gt hN hby (by omega)
  clear hN
  go_wp2
  rw [rounds_succ]
  go_wp2_with (simp only [Bool.true_eq_false])
  all_goals
    refine bodyPost_ret (v := .agg #[.bool false, .bool false]) (by simp [results, Tryz.results106, go_sem, hcd]) rfl ⟨rfl, ?_⟩
    exact (hBd.setCell (by simp; omega) _).setCell (by simp; omega) _

set_option maxRecDepth 100000 in
set_option maxHeartbeats 1000000 in
theorem ray_up_low_eq_l {ax ay bx bY px py : Nat} {Ax Ay Bx By Px Py : Int} (hax : Rep ax Ax) (hay : Rep ay Ay) (hbx : Rep bx Bx) (hby : Rep bY By) (hpx : Rep px Px) (hpy : Rep py Py) (h1 : Ay < By) (h2 : Ax = Bx) (h3 : Py = Ay) (hx : Px < Ax) (b1 : -16384 ≤ Ax ∧ Ax ≤ 16384 ∧ -16384 ≤ Ay ∧ Ay ≤ 16384 ∧ -16384 ≤ Bx ∧ Bx ≤ 16384 ∧ -16384 ≤ By ∧ By ≤ 16384 ∧ -16384 ≤ Px ∧ Px ≤ 16384 ∧ -16384 ≤ Py ∧ Py ≤ 16384) (w : World) :
    Calls Tryz.prog 106 #[.agg #[fl ax, fl ay, fl bx, fl bY], .agg #[fl px, fl py]] w fun e w' => e = .returned (.agg #[.bool true, .bool false]) ∧ Below w.heap.size w w' := by
  have o1 := oR hpx hax
  have o2 := oR hpx hbx
  have o3 := oR hpy hay
  have o4 := oR hpy hby
  have o5 := oR hay hby
  have o6 := oR hax hbx
  obtain ⟨d1, e1, r1⟩ := sub_rep hpx hax (by omega)
  obtain ⟨d2, e2, r2⟩ := sub_rep hbx hax (by omega)
  obtain ⟨d3, e3, r3⟩ := sub_rep hpy hay (by omega)
  obtain ⟨d4, e4, r4⟩ := sub_rep hby hay (by omega)
  have s1 := runSub (P := Tryz.prog) e1
  have s2 := runSub (P := Tryz.prog) e2
  have s3 := runSub (P := Tryz.prog) e3
  have s4 := runSub (P := Tryz.prog) e4
  obtain ⟨k2, f2, t2⟩ := div_rep r3 r4 (by omega)
  have f1 := div_zero r1 (by rw [h2] at r2; simpa using r2) (by omega)
  have q1 := runQuo (P := Tryz.prog) f1
  have q2 := runQuo (P := Tryz.prog) f2
  have oq := order_inf_left (s := (d1 / 9223372036854775808 % 2 == 1 ^^ d2 / 9223372036854775808 % 2 == 1)) (quo_fin t2 (by omega) (by omega))
  generalize Ieee.double.word (d1 / 9223372036854775808 % 2 == 1 ^^ d2 / 9223372036854775808 % 2 == 1) 9218868437227405312 = k1 at *
  have hq : (FloatKind.f64.format.order k1 k2 == some .eq) = false := by
    have : FloatKind.f64.format.order k1 k2 = _ := oq
    rw [this]
    cases (d1 / 9223372036854775808 % 2 == 1 ^^ d2 / 9223372036854775808 % 2 == 1) <;> rfl
  clear oq
  clear t2 r1 r2 r3 r4 e1 e2 e3 e4 f1 f2
  go_enter Tryz.func106, Tryz.ntmps106
  go_wp2
  refine ray_reg (by kernel_rfl) ?_
  intro wc b5 b6 b7 hS
  obtain ⟨hc, hz, c50, c51, c60, c61, c70, c71, z50, z51, n5, n6, n7, n5', n6', n7', n56, n65, n57, n75, hB, hsz, m5, G5, M5⟩ := id hS
  clear G5 M5
  go_wp2_with (simp only [s1, s2, s3, s4, q1, q2])
  refine wp_loop_rounds 2 ?_
  rw [rounds_succ]
  go_wp2_with fail
  refine ray_next hpy (by omega) (.inl rfl) (by kernel_rfl) rfl rfl hS ?_
  rintro x0 x' wd ⟨hN, hcd, hzd, k50, k51, k60, k61, k70, k71, hBd⟩
  clear c50 c51 c60 c61 c70 c71 z50 z51 hc hz hS
  have p1 := nxt_gt hN hay (by omega)
  have p2 := nxt_lt hN hby (by omega)
  clear hN
  go_wp2
  rw [rounds_succ]
  go_wp2_with (simp only [Bool.true_eq_false])
  all_goals
    refine bodyPost_ret (v := .agg #[.bool true, .bool false]) (by simp [results, Tryz.results106, go_sem, hcd]) rfl ⟨rfl, ?_⟩
    exact (hBd.setCell (by simp; omega) _).setCell (by simp; omega) _

set_option maxRecDepth 100000 in
set_option maxHeartbeats 1000000 in
theorem ray_up_low_eq_r {ax ay bx bY px py : Nat} {Ax Ay Bx By Px Py : Int} (hax : Rep ax Ax) (hay : Rep ay Ay) (hbx : Rep bx Bx) (hby : Rep bY By) (hpx : Rep px Px) (hpy : Rep py Py) (h1 : Ay < By) (h2 : Ax = Bx) (h3 : Py = Ay) (hx : Ax < Px) (b1 : -16384 ≤ Ax ∧ Ax ≤ 16384 ∧ -16384 ≤ Ay ∧ Ay ≤ 16384 ∧ -16384 ≤ Bx ∧ Bx ≤ 16384 ∧ -16384 ≤ By ∧ By ≤ 16384 ∧ -16384 ≤ Px ∧ Px ≤ 16384 ∧ -16384 ≤ Py ∧ Py ≤ 16384) (w : World) :
    Calls Tryz.prog 106 #[.agg #[fl ax, fl ay, fl bx, fl bY], .agg #[fl px, fl py]] w fun e w' => e = .returned (.agg #[.bool false, .bool false]) ∧ Below w.heap.size w w' := by
  have o1 := oR hpx hax
  have o2 := oR hpx hbx
  have o3 := oR hpy hay
  have o4 := oR hpy hby
  have o5 := oR hay hby
  have o6 := oR hax hbx
  obtain ⟨d1, e1, r1⟩ := sub_rep hpx hax (by omega)
  obtain ⟨d2, e2, r2⟩ := sub_rep hbx hax (by omega)
  obtain ⟨d3, e3, r3⟩ := sub_rep hpy hay (by omega)
  obtain ⟨d4, e4, r4⟩ := sub_rep hby hay (by omega)
  have s1 := runSub (P := Tryz.prog) e1
  have s2 := runSub (P := Tryz.prog) e2
  have s3 := runSub (P := Tryz.prog) e3
  have s4 := runSub (P := Tryz.prog) e4
  obtain ⟨k2, f2, t2⟩ := div_rep r3 r4 (by omega)
  have f1 := div_zero r1 (by rw [h2] at r2; simpa using r2) (by omega)
  have q1 := runQuo (P := Tryz.prog) f1
  have q2 := runQuo (P := Tryz.prog) f2
  have oq := order_inf_left (s := (d1 / 9223372036854775808 % 2 == 1 ^^ d2 / 9223372036854775808 % 2 == 1)) (quo_fin t2 (by omega) (by omega))
  generalize Ieee.double.word (d1 / 9223372036854775808 % 2 == 1 ^^ d2 / 9223372036854775808 % 2 == 1) 9218868437227405312 = k1 at *
  have hq : (FloatKind.f64.format.order k1 k2 == some .eq) = false := by
    have : FloatKind.f64.format.order k1 k2 = _ := oq
    rw [this]
    cases (d1 / 9223372036854775808 % 2 == 1 ^^ d2 / 9223372036854775808 % 2 == 1) <;> rfl
  clear oq
  clear t2 r1 r2 r3 r4 e1 e2 e3 e4 f1 f2
  go_enter Tryz.func106, Tryz.ntmps106
  go_wp2
  refine ray_reg (by kernel_rfl) ?_
  intro wc b5 b6 b7 hS
  obtain ⟨hc, hz, c50, c51, c60, c61, c70, c71, z50, z51, n5, n6, n7, n5', n6', n7', n56, n65, n57, n75, hB, hsz, m5, G5, M5⟩ := id hS
  clear G5 M5
  go_wp2_with (simp only [s1, s2, s3, s4, q1, q2])
  refine wp_loop_rounds 2 ?_
  rw [rounds_succ]
  go_wp2_with fail
  refine ray_next hpy (by omega) (.inl rfl) (by kernel_rfl) rfl rfl hS ?_
  rintro x0 x' wd ⟨hN, hcd, hzd, k50, k51, k60, k61, k70, k71, hBd⟩
  clear c50 c51 c60 c61 c70 c71 z50 z51 hc hz hS
  have p1 := nxt_gt hN hay (by omega)
  have p2 := nxt_lt hN hby (by omega)
  clear hN
  go_wp2
  rw [rounds_succ]
  go_wp2_with (simp only [Bool.true_eq_false])
  all_goals
    refine bodyPost_ret (v := .agg #[.bool false, .bool false]) (by simp [results, Tryz.results106, go_sem, hcd]) rfl ⟨rfl, ?_⟩
    exact (hBd.setCell (by simp; omega) _).setCell (by simp; omega) _

set_option maxRecDepth 100000 in
set_option maxHeartbeats 1000000 in
theorem ray_up_low_lt_l {ax ay bx bY px py : Nat} {Ax Ay Bx By Px Py : Int} (hax : Rep ax Ax) (hay : Rep ay Ay) (hbx : Rep bx Bx) (hby : Rep bY By) (hpx : Rep px Px) (hpy : Rep py Py) (h1 : Ay < By) (h2 : Ax < Bx) (h3 : Py = Ay) (hx : Px ≤ Ax) (hcr : (Px - Ax) * (By - Ay) ≠ (Py - Ay) * (Bx - Ax)) (b1 : -16384 ≤ Ax ∧ Ax ≤ 16384 ∧ -16384 ≤ Ay ∧ Ay ≤ 16384 ∧ -16384 ≤ Bx ∧ Bx ≤ 16384 ∧ -16384 ≤ By ∧ By ≤ 16384 ∧ -16384 ≤ Px ∧ Px ≤ 16384 ∧ -16384 ≤ Py ∧ Py ≤ 16384) (w : World) :
    Calls Tryz.prog 106 #[.agg #[fl ax, fl ay, fl bx, fl bY], .agg #[fl px, fl py]] w fun e w' => e = .returned (.agg #[.bool true, .bool false]) ∧ Below w.heap.size w w' := by
  have o1 := oR hpx hax
  have o2 := oR hpx hbx
  have o3 := oR hpy hay
  have o4 := oR hpy hby
  have o5 := oR hay hby
  have o6 := oR hax hbx
  obtain ⟨d1, e1, r1⟩ := sub_rep hpx hax (by omega)
  obtain ⟨d2, e2, r2⟩ := sub_rep hbx hax (by omega)
  obtain ⟨d3, e3, r3⟩ := sub_rep hpy hay (by omega)
  obtain ⟨d4, e4, r4⟩ := sub_rep hby hay (by omega)
  have s1 := runSub (P := Tryz.prog) e1
  have s2 := runSub (P := Tryz.prog) e2
  have s3 := runSub (P := Tryz.prog) e3
  have s4 := runSub (P := Tryz.prog) e4
  obtain ⟨k1, f1, t1⟩ := div_rep r1 r2 (by omega)
  obtain ⟨k2, f2, t2⟩ := div_rep r3 r4 (by omega)
  have q1 := runQuo (P := Tryz.prog) f1
  have q2 := runQuo (P := Tryz.prog) f2
  have hq := quo_ne t1 t2 (by omega) (by omega) (by omega) (by omega) (by omega) (by omega) hcr
  clear t1 t2 r1 r2 r3 r4 e1 e2 e3 e4 f1 f2 hcr
  go_enter Tryz.func106, Tryz.ntmps106
  go_wp2
  refine ray_reg (by kernel_rfl) ?_
  intro wc b5 b6 b7 hS
  obtain ⟨hc, hz, c50, c51, c60, c61, c70, c71, z50, z51, n5, n6, n7, n5', n6', n7', n56, n65, n57, n75, hB, hsz, m5, G5, M5⟩ := id hS
  clear G5 M5
  go_wp2_with (simp only [s1, s2, s3, s4, q1, q2])
  refine wp_loop_rounds 2 ?_
  rw [rounds_succ]
  go_wp2_with fail
  refine ray_next hpy (by omega) (.inl rfl) (by kernel_rfl) rfl rfl hS ?_
  rintro x0 x' wd ⟨hN, hcd, hzd, k50, k51, k60, k61, k70, k71, hBd⟩
  clear c50 c51 c60 c61 c70 c71 z50 z51 hc hz hS
  have p1 := nxt_gt hN hay (by omega)
  have p2 := nxt_lt hN hby (by omega)
  clear hN
  go_wp2
  rw [rounds_succ]
  go_wp2_with (simp only [Bool.true_eq_false])
  all_goals
    refine bodyPost_ret (v := .agg #[.bool true, .bool false]) (by simp [results, Tryz.results106, go_sem, hcd]) rfl ⟨rfl, ?_⟩
    exact (hBd.setCell (by simp; omega) _).setCell (by simp; omega) _

set_option maxRecDepth 100000 in
set_option maxHeartbeats 1000000 in
theorem ray_up_low_lt_r {ax ay bx bY px py : Nat} {Ax Ay Bx By Px Py : Int} (hax : Rep ax Ax) (hay : Rep ay Ay) (hbx : Rep bx Bx) (hby : Rep bY By) (hpx : Rep px Px) (hpy : Rep py Py) (h1 : Ay < By) (h2 : Ax < Bx) (h3 : Py = Ay) (hx : Bx ≤ Px) (hcr : (Px - Ax) * (By - Ay) ≠ (Py - Ay) * (Bx - Ax)) (b1 : -16384 ≤ Ax ∧ Ax ≤ 16384 ∧ -16384 ≤ Ay ∧ Ay ≤ 16384 ∧ -16384 ≤ Bx ∧ Bx ≤ 16384 ∧ -16384 ≤ By ∧ By ≤ 16384 ∧ -16384 ≤ Px ∧ Px ≤ 16384 ∧ -16384 ≤ Py ∧ Py ≤ 16384) (w : World) :
    Calls Tryz.prog 106 #[.agg #[fl ax, fl ay, fl bx, fl bY], .agg #[fl px, fl py]] w fun e w' => e = .returned (.agg #[.bool false, .bool false]) ∧ Below w.heap.size w w' := by
  have o1 := oR hpx hax
  have o2 := oR hpx hbx
  have o3 := oR hpy hay
  have o4 := oR hpy hby
  have o5 := oR hay hby
  have o6 := oR hax hbx
  obtain ⟨d1, e1, r1⟩ := sub_rep hpx hax (by omega)
  obtain ⟨d2, e2, r2⟩ := sub_rep hbx hax (by omega)
  obtain ⟨d3, e3, r3⟩ := sub_rep hpy hay (by omega)
  obtain ⟨d4, e4, r4⟩ := sub_rep hby hay (by omega)
  have s1 := runSub (P := Tryz.prog) e1
  have s2 := runSub (P := Tryz.prog) e2
  have s3 := runSub (P := Tryz.prog) e3
  have s4 := runSub (P := Tryz.prog) e4
  obtain ⟨k1, f1, t1⟩ := div_rep r1 r2 (by omega)
  obtain ⟨k2, f2, t2⟩ := div_rep r3 r4 (by omega)
  have q1 := runQuo (P := Tryz.prog) f1
  have q2 := runQuo (P := Tryz.prog) f2
  have hq := quo_ne t1 t2 (by omega) (by omega) (by omega) (by omega) (by omega) (by omega) hcr
  clear t1 t2 r1 r2 r3 r4 e1 e2 e3 e4 f1 f2 hcr
  go_enter Tryz.func106, Tryz.ntmps106
  go_wp2
  refine ray_reg (by kernel_rfl) ?_
  intro wc b5 b6 b7 hS
  obtain ⟨hc, hz, c50, c51, c60, c61, c70, c71, z50, z51, n5, n6, n7, n5', n6', n7', n56, n65, n57, n75, hB, hsz, m5, G5, M5⟩ := id hS
  clear G5 M5
  go_wp2_with (simp only [s1, s2, s3, s4, q1, q2])
  refine wp_loop_rounds 2 ?_
  rw [rounds_succ]
  go_wp2_with fail
  refine ray_next hpy (by omega) (.inl rfl) (by kernel_rfl) rfl rfl hS ?_
  rintro x0 x' wd ⟨hN, hcd, hzd, k50, k51, k60, k61, k70, k71, hBd⟩
  clear c50 c51 c60 c61 c70 c71 z50 z51 hc hz hS
  have p1 := nxt_gt hN hay (by omega)
  have p2 := nxt_lt hN hby (by omega)
  clear hN
  go_wp2
  rw [rounds_succ]
  go_wp2_with (simp only [Bool.true_eq_false])
  all_goals
    refine bodyPost_ret (v := .agg #[.bool false, .bool false]) (by simp [results, Tryz.results106, go_sem, hcd]) rfl ⟨rfl, ?_⟩
    exact (hBd.setCell (by simp; omega) _).setCell (by simp; omega) _
end Go.Proofs.YtlpibeloedfbdaaGreat
