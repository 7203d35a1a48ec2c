import Derived.Test.YtdlcckkphjpeoaaGreatRows
import Derived.Test.YtdlcckkphjpeoaaGreatMath
import Derived.Test.YtdlcckkphjpeoaaGreatJr
import Derived.Deep.DeepCutAuto
set_option linter.unusedSimpArgs false
set_option linter.unusedVariables false
namespace Go.Proofs.YtdlcckkphjpeoaaGreat
open Go.RowKit PF JR
set_option maxRecDepth 100000 in
set_option maxHeartbeats 1000000 in
theorem ray_down_mid_lt_l {ax ay bx bY px py : Nat} {Ax Ay Bx By Px Py : Int} (hax : Rep ax Ax) (hay : Rep ay Ay) (hbx : Rep bx Bx) (hby : Rep bY By) (hpx : Rep px Px) (hpy : Rep py Py) (h1 : By < Ay) (h2 : Ax < Bx) (h3 : By < Py ∧ Py < Ay) (hx : Px ≤ Ax) (hcr : (Px - Ax) * (By - Ay) ≠ (Py - Ay) * (Bx - Ax)) (b1 : -16384 ≤ Ax ∧ Ax ≤ 16384 ∧ -16384 ≤ Ay ∧ Ay ≤ 16384 ∧ -16384 ≤ Bx ∧ Bx ≤ 16384 ∧ -16384 ≤ By ∧ By ≤ 16384 ∧ -16384 ≤ Px ∧ Px ≤ 16384 ∧ -16384 ≤ Py ∧ Py ≤ 16384) (w : World) :
    Calls Tryz.prog 31 #[.agg #[fl ax, fl ay, fl bx, fl bY], .agg #[fl px, fl py]] w fun e w' => e = .returned (.agg #[.bool true, .bool false]) ∧ Below w.heap.size w w' := by
  have o1 := oR hpx hax
  have o2 := oR hpx hbx
  have o3 := oR hpy hay
  have o4 := oR hpy hby
  have o5 := oR hay hby
  have o6 := oR hax hbx
  obtain ⟨d1, e1, r1⟩ := sub_rep hpx hax (by omega)
  obtain ⟨d2, e2, r2⟩ := sub_rep hbx hax (by omega)
  obtain ⟨d3, e3, r3⟩ := sub_rep hpy hay (by omega)
  obtain ⟨d4, e4, r4⟩ := sub_rep hby hay (by omega)
  have s1 := runSub (P := Tryz.prog) e1
  have s2 := runSub (P := Tryz.prog) e2
  have s3 := runSub (P := Tryz.prog) e3
  have s4 := runSub (P := Tryz.prog) e4
  obtain ⟨k1, f1, t1⟩ := div_rep r1 r2 (by omega)
  obtain ⟨k2, f2, t2⟩ := div_rep r3 r4 (by omega)
  have q1 := runQuo (P := Tryz.prog) f1
  have q2 := runQuo (P := Tryz.prog) f2
  have hq := quo_ne t1 t2 (by omega) (by omega) (by omega) (by omega) (by omega) (by omega) hcr
  clear t1 t2 r1 r2 r3 r4 e1 e2 e3 e4 f1 f2 hcr
  go_enter Tryz.func31, Tryz.ntmps31
  go_wp2
  refine wp_region_K [] [.val (.agg #[fl px, fl py]), .val (.pointer (some ⟨w.heap.size, 0, none⟩)), .val (.agg #[fl ax, fl ay]), .val (.pointer (some ⟨w.heap.size, 2, none⟩)), .val (.agg #[fl bx, fl bY]),
      .made 64 2, .made 64 2, .made 64 2, .filled 5 #[fl px, fl py] 64, .filled 6 #[fl ax, fl ay] 64, .filled 7 #[fl bx, fl bY] 64]
    [[.ini 3], [.ini 2], [.frm 1 9], [.ini 2], [.frm 3 11], [], [], [], [.frm 5 5, .frm 0 8], [.frm 6 6, .frm 2 10], [.frm 7 7, .frm 4 12]]
    mixed (by kernel_rfl) (by kernel_rfl) (by simp [Ent.val, Ent.made, Ent.filledP]) ⟨OpOk.quiet rfl ?_, OpOk.quiet rfl ?_, OpOk.quiet rfl ?_, OpOk.quiet rfl ?_, OpOk.quiet rfl ?_, OpOk.made (cs := #[fl 0, fl 0]) rfl rfl ?_, OpOk.made (cs := #[fl 0, fl 0]) rfl rfl ?_, OpOk.made (cs := #[fl 0, fl 0]) rfl rfl ?_,
      OpOk.fillRow (k := 5) rfl rfl (by kernel_rfl) rfl ?_ (by kernel_rfl) (by simp [Value.oneCell']) ?_ ?_, OpOk.fillRow (k := 6) rfl rfl (by kernel_rfl) rfl ?_ (by kernel_rfl) (by simp [Value.oneCell']) ?_ ?_, OpOk.fillRow (k := 7) rfl rfl (by kernel_rfl) rfl ?_ (by kernel_rfl) (by simp [Value.oneCell']) ?_ ?_, trivial⟩ ?_
  all_goals first
    | (intro a u hG hf
       simp [facts, Need.fact, Ent.val, Act.eval] at hf
       have hc := fun (b o : Nat) (h : b < w.heap.size + 3) => hG.cell (p := ⟨b, o, none⟩) (by simpa using h) (by simp)
       go_simp
       done)
    | (simp [Ent.val, Ent.made, Ent.filledP]; done)
    | exact fun a w hf => ⟨hf.1, hf.2.1.elim fun _ h => h.elim fun _ h => h⟩
    | exact fun w b cs h hb => Keep.setRow h (.inl hb)
    | skip
  intro u l h wc hK hE hI hD
  simp [allE, allPut, Act.put, Act.eval, Ent.val, Ent.made, Ent.filledP] at hE
  obtain ⟨u0, u1, u2, u3, u4, ⟨b5, u5, l5, h5, -⟩, ⟨b6, u6, l6, h6, -⟩, ⟨b7, u7, l7, h7, -⟩, ⟨b5', v5, g5⟩, ⟨b6', v6, g6⟩, ⟨b7', v7, g7⟩⟩ := hE
  obtain rfl : b5 = b5' := by rw [u5] at v5; simpa using v5
  obtain rfl : b6 = b6' := by rw [u6] at v6; simpa using v6
  obtain rfl : b7 = b7' := by rw [u7] at v7; simpa using v7
  simp only [allPut, Act.put, u0, u1, u2, u3, u4, u5, u6, u7]
  clear v5 v6 v7 u0 u1 u2 u3 u4 u5 u6 u7
  have i5 := hI 5 (by simp)
  have i6 := hI 6 (by simp)
  have i7 := hI 7 (by simp)
  have d56 := hD 5 6 (by simp) (by simp) (by omega)
  have d57 := hD 5 7 (by simp) (by simp) (by omega)
  simp at i5 i6 i7
  have hc := fun (b o : Nat) (h : b < w.heap.size + 3) => hK.cell (p := ⟨b, o, none⟩) (by simpa using h) (by simp)
  have hz := fun (b o : Nat) (h : b < w.heap.size + 3) => hK.frozen (p := ⟨b, o, none⟩) (by simpa using h) (by simp)
  have c50 := cellAt g5 0
  have c51 := cellAt g5 1
  have c60 := cellAt g6 0
  have c61 := cellAt g6 1
  have c70 := cellAt g7 0
  have c71 := cellAt g7 1
  simp only [List.getElem?_toArray, List.getElem?_cons_zero, List.getElem?_cons_succ] at c50 c51 c60 c61 c70 c71
  have z50 := frozenAt g5 0
  have z51 := frozenAt g5 1
  have n5 : (w.heap.size + 2 = b5) = False := by simp; omega
  have n6 : (w.heap.size + 2 = b6) = False := by simp; omega
  have n7 : (w.heap.size + 2 = b7) = False := by simp; omega
  have n5' : (b5 = w.heap.size + 2) = False := by simp; omega
  have n6' : (b6 = w.heap.size + 2) = False := by simp; omega
  have n7' : (b7 = w.heap.size + 2) = False := by simp; omega
  have n56 : (b5 = b6) = False := by simp; omega
  have n65 : (b6 = b5) = False := by simp; omega
  have n57 : (b5 = b7) = False := by simp; omega
  have n75 : (b7 = b5) = False := by simp; omega
  have hB : Below w.heap.size w wc := (((Below.refl _ _).alloc (Nat.le_refl _) _).alloc (by simp) _ |>.alloc (by simp; omega) _).trans (hK.below.mono (by simp; omega))
  have hsz : w.heap.size + 3 ≤ wc.heap.size := by simpa using hK.size
  have m5 : w.heap.size ≤ b5 := by omega
  have G5 : Hid (wc.heap[b5]? = some (.cells #[fl px, fl py] 64 (0, 0))) := g5
  have M5 : Hid (b5 < wc.heap.size ∧ b6 < wc.heap.size ∧ b7 < wc.heap.size ∧ w.heap.size + 3 ≤ b5 ∧ b6 ≠ b5 ∧ b7 ≠ b5) := ⟨by omega, by omega, by omega, by omega, by omega, by omega⟩
  clear hK hI hD g5 g6 g7 d56 d57 i5 i6 i7 l5 h5 l6 h6 l7 h7
  go_wp2_with (simp only [s1, s2, s3, s4, q1, q2])
  refine wp_loop_rounds 1 ?_
  rw [rounds_succ]
  go_wp2_with (simp only [s1, s2, s3, s4, q1, q2])
  all_goals
    refine bodyPost_ret (v := .agg #[.bool true, .bool false]) (by simp [results, Tryz.results31, go_sem, hc]) rfl ⟨rfl, ?_⟩
    exact (hB.setCell (by simp; omega) _).setCell (by simp; omega) _

set_option maxRecDepth 100000 in
set_option maxHeartbeats 1000000 in
theorem ray_down_mid_lt_r {ax ay bx bY px py : Nat} {Ax Ay Bx By Px Py : Int} (hax : Rep ax Ax) (hay : Rep ay Ay) (hbx : Rep bx Bx) (hby : Rep bY By) (hpx : Rep px Px) (hpy : Rep py Py) (h1 : By < Ay) (h2 : Ax < Bx) (h3 : By < Py ∧ Py < Ay) (hx : Bx ≤ Px) (hcr : (Px - Ax) * (By - Ay) ≠ (Py - Ay) * (Bx - Ax)) (b1 : -16384 ≤ Ax ∧ Ax ≤ 16384 ∧ -16384 ≤ Ay ∧ Ay ≤ 16384 ∧ -16384 ≤ Bx ∧ Bx ≤ 16384 ∧ -16384 ≤ By ∧ By ≤ 16384 ∧ -16384 ≤ Px ∧ Px ≤ 16384 ∧ -16384 ≤ Py ∧ Py ≤ 16384) (w : World) :
    Calls Tryz.prog 31 #[.agg #[fl ax, fl ay, fl bx, fl bY], .agg #[fl px, fl py]] w fun e w' => e = .returned (.agg #[.bool false, .bool false]) ∧ Below w.heap.size w w' := by
  have o1 := oR hpx hax
  have o2 := oR hpx hbx
  have o3 := oR hpy hay
  have o4 := oR hpy hby
  have o5 := oR hay hby
  have o6 := oR hax hbx
  obtain ⟨d1, e1, r1⟩ := sub_rep hpx hax (by omega)
  obtain ⟨d2, e2, r2⟩ := sub_rep hbx hax (by omega)
  obtain ⟨d3, e3, r3⟩ := sub_rep hpy hay (by omega)
  obtain ⟨d4, e4, r4⟩ := sub_rep hby hay (by omega)
  have s1 := runSub (P := Tryz.prog) e1
  have s2 := runSub (P := Tryz.prog) e2
  have s3 := runSub (P := Tryz.prog) e3
  have s4 := runSub (P := Tryz.prog) e4
  obtain ⟨k1, f1, t1⟩ := div_rep r1 r2 (by omega)
  obtain ⟨k2, f2, t2⟩ := div_rep r3 r4 (by omega)
  have q1 := runQuo (P := Tryz.prog) f1
  have q2 := runQuo (P := Tryz.prog) f2
  have hq := quo_ne t1 t2 (by omega) (by omega) (by omega) (by omega) (by omega) (by omega) hcr
  clear t1 t2 r1 r2 r3 r4 e1 e2 e3 e4 f1 f2 hcr
  go_enter Tryz.func31, Tryz.ntmps31
  go_wp2
  refine wp_region_K [] [.val (.agg #[fl px, fl py]), .val (.pointer (some ⟨w.heap.size, 0, none⟩)), .val (.agg #[fl ax, fl ay]), .val (.pointer (some ⟨w.heap.size, 2, none⟩)), .val (.agg #[fl bx, fl bY]),
      .made 64 2, .made 64 2, .made 64 2, .filled 5 #[fl px, fl py] 64, .filled 6 #[fl ax, fl ay] 64, .filled 7 #[fl bx, fl bY] 64]
    [[.ini 3], [.ini 2], [.frm 1 9], [.ini 2], [.frm 3 11], [], [], [], [.frm 5 5, .frm 0 8], [.frm 6 6, .frm 2 10], [.frm 7 7, .frm 4 12]]
    mixed (by kernel_rfl) (by kernel_rfl) (by simp [Ent.val, Ent.made, Ent.filledP]) ⟨OpOk.quiet rfl ?_, OpOk.quiet rfl ?_, OpOk.quiet rfl ?_, OpOk.quiet rfl ?_, OpOk.quiet rfl ?_, OpOk.made (cs := #[fl 0, fl 0]) rfl rfl ?_, OpOk.made (cs := #[fl 0, fl 0]) rfl rfl ?_, OpOk.made (cs := #[fl 0, fl 0]) rfl rfl ?_,
      OpOk.fillRow (k := 5) rfl rfl (by kernel_rfl) rfl ?_ (by kernel_rfl) (by simp [Value.oneCell']) ?_ ?_, OpOk.fillRow (k := 6) rfl rfl (by kernel_rfl) rfl ?_ (by kernel_rfl) (by simp [Value.oneCell']) ?_ ?_, OpOk.fillRow (k := 7) rfl rfl (by kernel_rfl) rfl ?_ (by kernel_rfl) (by simp [Value.oneCell']) ?_ ?_, trivial⟩ ?_
  all_goals first
    | (intro a u hG hf
       simp [facts, Need.fact, Ent.val, Act.eval] at hf
       have hc := fun (b o : Nat) (h : b < w.heap.size + 3) => hG.cell (p := ⟨b, o, none⟩) (by simpa using h) (by simp)
       go_simp
       done)
    | (simp [Ent.val, Ent.made, Ent.filledP]; done)
    | exact fun a w hf => ⟨hf.1, hf.2.1.elim fun _ h => h.elim fun _ h => h⟩
    | exact fun w b cs h hb => Keep.setRow h (.inl hb)
    | skip
  intro u l h wc hK hE hI hD
  simp [allE, allPut, Act.put, Act.eval, Ent.val, Ent.made, Ent.filledP] at hE
  obtain ⟨u0, u1, u2, u3, u4, ⟨b5, u5, l5, h5, -⟩, ⟨b6, u6, l6, h6, -⟩, ⟨b7, u7, l7, h7, -⟩, ⟨b5', v5, g5⟩, ⟨b6', v6, g6⟩, ⟨b7', v7, g7⟩⟩ := hE
  obtain rfl : b5 = b5' := by rw [u5] at v5; simpa using v5
  obtain rfl : b6 = b6' := by rw [u6] at v6; simpa using v6
  obtain rfl : b7 = b7' := by rw [u7] at v7; simpa using v7
  simp only [allPut, Act.put, u0, u1, u2, u3, u4, u5, u6, u7]
  clear v5 v6 v7 u0 u1 u2 u3 u4 u5 u6 u7
  have i5 := hI 5 (by simp)
  have i6 := hI 6 (by simp)
  have i7 := hI 7 (by simp)
  have d56 := hD 5 6 (by simp) (by simp) (by omega)
  have d57 := hD 5 7 (by simp) (by simp) (by omega)
  simp at i5 i6 i7
  have hc := fun (b o : Nat) (h : b < w.heap.size + 3) => hK.cell (p := ⟨b, o, none⟩) (by simpa using h) (by simp)
  have hz := fun (b o : Nat) (h : b < w.heap.size + 3) => hK.frozen (p := ⟨b, o, none⟩) (by simpa using h) (by simp)
  have c50 := cellAt g5 0
  have c51 := cellAt g5 1
  have c60 := cellAt g6 0
  have c61 := cellAt g6 1
  have c70 := cellAt g7 0
  have c71 := cellAt g7 1
  simp only [List.getElem?_toArray, List.getElem?_cons_zero, List.getElem?_cons_succ] at c50 c51 c60 c61 c70 c71
  have z50 := frozenAt g5 0
  have z51 := frozenAt g5 1
  have n5 : (w.heap.size + 2 = b5) = False := by simp; omega
  have n6 : (w.heap.size + 2 = b6) = False := by simp; omega
  have n7 : (w.heap.size + 2 = b7) = False := by simp; omega
  have n5' : (b5 = w.heap.size + 2) = False := by simp; omega
  have n6' : (b6 = w.heap.size + 2) = False := by simp; omega
  have n7' : (b7 = w.heap.size + 2) = False := by simp; omega
  have n56 : (b5 = b6) = False := by simp; omega
  have n65 : (b6 = b5) = False := by simp; omega
  have n57 : (b5 = b7) = False := by simp; omega
  have n75 : (b7 = b5) = False := by simp; omega
  have hB : Below w.heap.size w wc := (((Below.refl _ _).alloc (Nat.le_refl _) _).alloc (by simp) _ |>.alloc (by simp; omega) _).trans (hK.below.mono (by simp; omega))
  have hsz : w.heap.size + 3 ≤ wc.heap.size := by simpa using hK.size
  have m5 : w.heap.size ≤ b5 := by omega
  have G5 : Hid (wc.heap[b5]? = some (.cells #[fl px, fl py] 64 (0, 0))) := g5
  have M5 : Hid (b5 < wc.heap.size ∧ b6 < wc.heap.size ∧ b7 < wc.heap.size ∧ w.heap.size + 3 ≤ b5 ∧ b6 ≠ b5 ∧ b7 ≠ b5) := ⟨by omega, by omega, by omega, by omega, by omega, by omega⟩
  clear hK hI hD g5 g6 g7 d56 d57 i5 i6 i7 l5 h5 l6 h6 l7 h7
  go_wp2_with (simp only [s1, s2, s3, s4, q1, q2])
  refine wp_loop_rounds 1 ?_
  rw [rounds_succ]
  go_wp2_with (simp only [s1, s2, s3, s4, q1, q2])
  all_goals
    refine bodyPost_ret (v := .agg #[.bool false, .bool false]) (by simp [results, Tryz.results31, go_sem, hc]) rfl ⟨rfl, ?_⟩
    exact (hB.setCell (by simp; omega) _).setCell (by simp; omega) _

set_option maxRecDepth 100000 in
set_option maxHeartbeats 1000000 in
theorem ray_down_mid_lt_bt {ax ay bx bY px py : Nat} {Ax Ay Bx By Px Py : Int} (hax : Rep ax Ax) (hay : Rep ay Ay) (hbx : Rep bx Bx) (hby : Rep bY By) (hpx : Rep px Px) (hpy : Rep py Py) (h1 : By < Ay) (h2 : Ax < Bx) (h3 : By < Py ∧ Py < Ay) (hx : Ax < Px) (hy : Px < Bx) (hs : (Ay - By) * (Px - Bx) ≤ (Py - By) * (Ax - Bx)) (hcr : (Px - Ax) * (By - Ay) ≠ (Py - Ay) * (Bx - Ax)) (b1 : -16384 ≤ Ax ∧ Ax ≤ 16384 ∧ -16384 ≤ Ay ∧ Ay ≤ 16384 ∧ -16384 ≤ Bx ∧ Bx ≤ 16384 ∧ -16384 ≤ By ∧ By ≤ 16384 ∧ -16384 ≤ Px ∧ Px ≤ 16384 ∧ -16384 ≤ Py ∧ Py ≤ 16384) (w : World) :
    Calls Tryz.prog 31 #[.agg #[fl ax, fl ay, fl bx, fl bY], .agg #[fl px, fl py]] w fun e w' => e = .returned (.agg #[.bool true, .bool false]) ∧ Below w.heap.size w w' := by
  have o1 := oR hpx hax
  have o2 := oR hpx hbx
  have o3 := oR hpy hay
  have o4 := oR hpy hby
  have o5 := oR hay hby
  have o6 := oR hax hbx
  obtain ⟨d1, e1, r1⟩ := sub_rep hpx hax (by omega)
  obtain ⟨d2, e2, r2⟩ := sub_rep hbx hax (by omega)
  obtain ⟨d3, e3, r3⟩ := sub_rep hpy hay (by omega)
  obtain ⟨d4, e4, r4⟩ := sub_rep hby hay (by omega)
  have s1 := runSub (P := Tryz.prog) e1
  have s2 := runSub (P := Tryz.prog) e2
  have s3 := runSub (P := Tryz.prog) e3
  have s4 := runSub (P := Tryz.prog) e4
  obtain ⟨d5, e5, r5⟩ := sub_rep hpy hby (by omega)
  obtain ⟨d6, e6, r6⟩ := sub_rep hpx hbx (by omega)
  obtain ⟨d7, e7, r7⟩ := sub_rep hay hby (by omega)
  obtain ⟨d8, e8, r8⟩ := sub_rep hax hbx (by omega)
  have s5 := runSub (P := Tryz.prog) e5
  have s6 := runSub (P := Tryz.prog) e6
  have s7 := runSub (P := Tryz.prog) e7
  have s8 := runSub (P := Tryz.prog) e8
  obtain ⟨k1, f1, t1⟩ := div_rep r1 r2 (by omega)
  obtain ⟨k2, f2, t2⟩ := div_rep r3 r4 (by omega)
  have q1 := runQuo (P := Tryz.prog) f1
  have q2 := runQuo (P := Tryz.prog) f2
  have hq := quo_ne t1 t2 (by omega) (by omega) (by omega) (by omega) (by omega) (by omega) hcr
  obtain ⟨k3, f3, t3⟩ := div_rep r5 r6 (by omega)
  obtain ⟨k4, f4, t4⟩ := div_rep r7 r8 (by omega)
  have q3 := runQuo (P := Tryz.prog) f3
  have q4 := runQuo (P := Tryz.prog) f4
  have hpos : 0 < (Px - Bx) * (Ax - Bx) := Int.mul_pos_of_neg_of_neg (by omega) (by omega)
  have og := quo_ge t3 t4 hpos (by omega) (by omega) (by omega) (by omega) hs
  have ob : (FloatKind.f64.format.order k3 k4 == some .gt || FloatKind.f64.format.order k3 k4 == some .eq) = true := by
    rcases og with h | h <;> rw [h] <;> rfl
  clear og
  clear t1 t2 t3 t4 hpos hs hcr r1 r2 r3 r4 e1 e2 e3 e4 f1 f2 f3 f4 r5 r6 r7 r8 e5 e6 e7 e8
  go_enter Tryz.func31, Tryz.ntmps31
  go_wp2
  refine wp_region_K [] [.val (.agg #[fl px, fl py]), .val (.pointer (some ⟨w.heap.size, 0, none⟩)), .val (.agg #[fl ax, fl ay]), .val (.pointer (some ⟨w.heap.size, 2, none⟩)), .val (.agg #[fl bx, fl bY]),
      .made 64 2, .made 64 2, .made 64 2, .filled 5 #[fl px, fl py] 64, .filled 6 #[fl ax, fl ay] 64, .filled 7 #[fl bx, fl bY] 64]
    [[.ini 3], [.ini 2], [.frm 1 9], [.ini 2], [.frm 3 11], [], [], [], [.frm 5 5, .frm 0 8], [.frm 6 6, .frm 2 10], [.frm 7 7, .frm 4 12]]
    mixed (by kernel_rfl) (by kernel_rfl) (by simp [Ent.val, Ent.made, Ent.filledP]) ⟨OpOk.quiet rfl ?_, OpOk.quiet rfl ?_, OpOk.quiet rfl ?_, OpOk.quiet rfl ?_, OpOk.quiet rfl ?_, OpOk.made (cs := #[fl 0, fl 0]) rfl rfl ?_, OpOk.made (cs := #[fl 0, fl 0]) rfl rfl ?_, OpOk.made (cs := #[fl 0, fl 0]) rfl rfl ?_,
      OpOk.fillRow (k := 5) rfl rfl (by kernel_rfl) rfl ?_ (by kernel_rfl) (by simp [Value.oneCell']) ?_ ?_, OpOk.fillRow (k := 6) rfl rfl (by kernel_rfl) rfl ?_ (by kernel_rfl) (by simp [Value.oneCell']) ?_ ?_, OpOk.fillRow (k := 7) rfl rfl (by kernel_rfl) rfl ?_ (by kernel_rfl) (by simp [Value.oneCell']) ?_ ?_, trivial⟩ ?_
  all_goals first
    | (intro a u hG hf
       simp [facts, Need.fact, Ent.val, Act.eval] at hf
       have hc := fun (b o : Nat) (h : b < w.heap.size + 3) => hG.cell (p := ⟨b, o, none⟩) (by simpa using h) (by simp)
       go_simp
       done)
    | (simp [Ent.val, Ent.made, Ent.filledP]; done)
    | exact fun a w hf => ⟨hf.1, hf.2.1.elim fun _ h => h.elim fun _ h => h⟩
    | exact fun w b cs h hb => Keep.setRow h (.inl hb)
    | skip
  intro u l h wc hK hE hI hD
  simp [allE, allPut, Act.put, Act.eval, Ent.val, Ent.made, Ent.filledP] at hE
  obtain ⟨u0, u1, u2, u3, u4, ⟨b5, u5, l5, h5, -⟩, ⟨b6, u6, l6, h6, -⟩, ⟨b7, u7, l7, h7, -⟩, ⟨b5', v5, g5⟩, ⟨b6', v6, g6⟩, ⟨b7', v7, g7⟩⟩ := hE
  obtain rfl : b5 = b5' := by rw [u5] at v5; simpa using v5
  obtain rfl : b6 = b6' := by rw [u6] at v6; simpa using v6
  obtain rfl : b7 = b7' := by rw [u7] at v7; simpa using v7
  simp only [allPut, Act.put, u0, u1, u2, u3, u4, u5, u6, u7]
  clear v5 v6 v7 u0 u1 u2 u3 u4 u5 u6 u7
  have i5 := hI 5 (by simp)
  have i6 := hI 6 (by simp)
  have i7 := hI 7 (by simp)
  have d56 := hD 5 6 (by simp) (by simp) (by omega)
  have d57 := hD 5 7 (by simp) (by simp) (by omega)
  simp at i5 i6 i7
  have hc := fun (b o : Nat) (h : b < w.heap.size + 3) => hK.cell (p := ⟨b, o, none⟩) (by simpa using h) (by simp)
  have hz := fun (b o : Nat) (h : b < w.heap.size + 3) => hK.frozen (p := ⟨b, o, none⟩) (by simpa using h) (by simp)
  have c50 := cellAt g5 0
  have c51 := cellAt g5 1
  have c60 := cellAt g6 0
  have c61 := cellAt g6 1
  have c70 := cellAt g7 0
  have c71 := cellAt g7 1
  simp only [List.getElem?_toArray, List.getElem?_cons_zero, List.getElem?_cons_succ] at c50 c51 c60 c61 c70 c71
  have z50 := frozenAt g5 0
  have z51 := frozenAt g5 1
  have n5 : (w.heap.size + 2 = b5) = False := by simp; omega
  have n6 : (w.heap.size + 2 = b6) = False := by simp; omega
  have n7 : (w.heap.size + 2 = b7) = False := by simp; omega
  have n5' : (b5 = w.heap.size + 2) = False := by simp; omega
  have n6' : (b6 = w.heap.size + 2) = False := by simp; omega
  have n7' : (b7 = w.heap.size + 2) = False := by simp; omega
  have n56 : (b5 = b6) = False := by simp; omega
  have n65 : (b6 = b5) = False := by simp; omega
  have n57 : (b5 = b7) = False := by simp; omega
  have n75 : (b7 = b5) = False := by simp; omega
  have hB : Below w.heap.size w wc := (((Below.refl _ _).alloc (Nat.le_refl _) _).alloc (by simp) _ |>.alloc (by simp; omega) _).trans (hK.below.mono (by simp; omega))
  have hsz : w.heap.size + 3 ≤ wc.heap.size := by simpa using hK.size
  have m5 : w.heap.size ≤ b5 := by omega
  have G5 : Hid (wc.heap[b5]? = some (.cells #[fl px, fl py] 64 (0, 0))) := g5
  have M5 : Hid (b5 < wc.heap.size ∧ b6 < wc.heap.size ∧ b7 < wc.heap.size ∧ w.heap.size + 3 ≤ b5 ∧ b6 ≠ b5 ∧ b7 ≠ b5) := ⟨by omega, by omega, by omega, by omega, by omega, by omega⟩
  clear hK hI hD g5 g6 g7 d56 d57 i5 i6 i7 l5 h5 l6 h6 l7 h7
  go_wp2_with (simp only [s1, s2, s3, s4, q1, q2])
  refine wp_loop_rounds 1 ?_
  rw [rounds_succ]
  go_wp2_with (simp only [s5, s6, s7, s8, q3, q4])
  all_goals
    refine bodyPost_ret (v := .agg #[.bool true, .bool false]) (by simp [results, Tryz.results31, go_sem, hc]) rfl ⟨rfl, ?_⟩
    exact (hB.setCell (by simp; omega) _).setCell (by simp; omega) _

set_option maxRecDepth 100000 in
set_option maxHeartbeats 1000000 in
theorem ray_down_mid_lt_bf {ax ay bx bY px py : Nat} {Ax Ay Bx By Px Py : Int} (hax : Rep ax Ax) (hay : Rep ay Ay) (hbx : Rep bx Bx) (hby : Rep bY By) (hpx : Rep px Px) (hpy : Rep py Py) (h1 : By < Ay) (h2 : Ax < Bx) (h3 : By < Py ∧ Py < Ay) (hx : Ax < Px) (hy : Px < Bx) (hs : (Py - By) * (Ax - Bx) < (Ay - By) * (Px - Bx)) (hcr : (Px - Ax) * (By - Ay) ≠ (Py - Ay) * (Bx - Ax)) (b1 : -16384 ≤ Ax ∧ Ax ≤ 16384 ∧ -16384 ≤ Ay ∧ Ay ≤ 16384 ∧ -16384 ≤ Bx ∧ Bx ≤ 16384 ∧ -16384 ≤ By ∧ By ≤ 16384 ∧ -16384 ≤ Px ∧ Px ≤ 16384 ∧ -16384 ≤ Py ∧ Py ≤ 16384) (w : World) :
    Calls Tryz.prog 31 #[.agg #[fl ax, fl ay, fl bx, fl bY], .agg #[fl px, fl py]] w fun e w' => e = .returned (.agg #[.bool false, .bool false]) ∧ Below w.heap.size w w' := by
  have o1 := oR hpx hax
  have o2 := oR hpx hbx
  have o3 := oR hpy hay
  have o4 := oR hpy hby
  have o5 := oR hay hby
  have o6 := oR hax hbx
  obtain ⟨d1, e1, r1⟩ := sub_rep hpx hax (by omega)
  obtain ⟨d2, e2, r2⟩ := sub_rep hbx hax (by omega)
  obtain ⟨d3, e3, r3⟩ := sub_rep hpy hay (by omega)
  obtain ⟨d4, e4, r4⟩ := sub_rep hby hay (by omega)
  have s1 := runSub (P := Tryz.prog) e1
  have s2 := runSub (P := Tryz.prog) e2
  have s3 := runSub (P := Tryz.prog) e3
  have s4 := runSub (P := Tryz.prog) e4
  obtain ⟨d5, e5, r5⟩ := sub_rep hpy hby (by omega)
  obtain ⟨d6, e6, r6⟩ := sub_rep hpx hbx (by omega)
  obtain ⟨d7, e7, r7⟩ := sub_rep hay hby (by omega)
  obtain ⟨d8, e8, r8⟩ := sub_rep hax hbx (by omega)
  have s5 := runSub (P := Tryz.prog) e5
  have s6 := runSub (P := Tryz.prog) e6
  have s7 := runSub (P := Tryz.prog) e7
  have s8 := runSub (P := Tryz.prog) e8
  obtain ⟨k1, f1, t1⟩ := div_rep r1 r2 (by omega)
  obtain ⟨k2, f2, t2⟩ := div_rep r3 r4 (by omega)
  have q1 := runQuo (P := Tryz.prog) f1
  have q2 := runQuo (P := Tryz.prog) f2
  have hq := quo_ne t1 t2 (by omega) (by omega) (by omega) (by omega) (by omega) (by omega) hcr
  obtain ⟨k3, f3, t3⟩ := div_rep r5 r6 (by omega)
  obtain ⟨k4, f4, t4⟩ := div_rep r7 r8 (by omega)
  have q3 := runQuo (P := Tryz.prog) f3
  have q4 := runQuo (P := Tryz.prog) f4
  have hpos : 0 < (Px - Bx) * (Ax - Bx) := Int.mul_pos_of_neg_of_neg (by omega) (by omega)
  have og := quo_lt' t3 t4 hpos (by omega) (by omega) (by omega) (by omega) hs
  clear t1 t2 t3 t4 hpos hs hcr r1 r2 r3 r4 e1 e2 e3 e4 f1 f2 f3 f4 r5 r6 r7 r8 e5 e6 e7 e8
  go_enter Tryz.func31, Tryz.ntmps31
  go_wp2
  refine wp_region_K [] [.val (.agg #[fl px, fl py]), .val (.pointer (some ⟨w.heap.size, 0, none⟩)), .val (.agg #[fl ax, fl ay]), .val (.pointer (some ⟨w.heap.size, 2, none⟩)), .val (.agg #[fl bx, fl bY]),
      .made 64 2, .made 64 2, .made 64 2, .filled 5 #[fl px, fl py] 64, .filled 6 #[fl ax, fl ay] 64, .filled 7 #[fl bx, fl bY] 64]
    [[.ini 3], [.ini 2], [.frm 1 9], [.ini 2], [.frm 3 11], [], [], [], [.frm 5 5, .frm 0 8], [.frm 6 6, .frm 2 10], [.frm 7 7, .frm 4 12]]
    mixed (by kernel_rfl) (by kernel_rfl) (by simp [Ent.val, Ent.made, Ent.filledP]) ⟨OpOk.quiet rfl ?_, OpOk.quiet rfl ?_, OpOk.quiet rfl ?_, OpOk.quiet rfl ?_, OpOk.quiet rfl ?_, OpOk.made (cs := #[fl 0, fl 0]) rfl rfl ?_, OpOk.made (cs := #[fl 0, fl 0]) rfl rfl ?_, OpOk.made (cs := #[fl 0, fl 0]) rfl rfl ?_,
      OpOk.fillRow (k := 5) rfl rfl (by kernel_rfl) rfl ?_ (by kernel_rfl) (by simp [Value.oneCell']) ?_ ?_, OpOk.fillRow (k := 6) rfl rfl (by kernel_rfl) rfl ?_ (by kernel_rfl) (by simp [Value.oneCell']) ?_ ?_, OpOk.fillRow (k := 7) rfl rfl (by kernel_rfl) rfl ?_ (by kernel_rfl) (by simp [Value.oneCell']) ?_ ?_, trivial⟩ ?_
  all_goals first
    | (intro a u hG hf
       simp [facts, Need.fact, Ent.val, Act.eval] at hf
       have hc := fun (b o : Nat) (h : b < w.heap.size + 3) => hG.cell (p := ⟨b, o, none⟩) (by simpa using h) (by simp)
       go_simp
       done)
    | (simp [Ent.val, Ent.made, Ent.filledP]; done)
    | exact fun a w hf => ⟨hf.1, hf.2.1.elim fun _ h => h.elim fun _ h => h⟩
    | exact fun w b cs h hb => Keep.setRow h (.inl hb)
    | skip
  intro u l h wc hK hE hI hD
  simp [allE, allPut, Act.put, Act.eval, Ent.val, Ent.made, Ent.filledP] at hE
  obtain ⟨u0, u1, u2, u3, u4, ⟨b5, u5, l5, h5, -⟩, ⟨b6, u6, l6, h6, -⟩, ⟨b7, u7, l7, h7, -⟩, ⟨b5', v5, g5⟩, ⟨b6', v6, g6⟩, ⟨b7', v7, g7⟩⟩ := hE
  obtain rfl : b5 = b5' := by rw [u5] at v5; simpa using v5
  obtain rfl : b6 = b6' := by rw [u6] at v6; simpa using v6
  obtain rfl : b7 = b7' := by rw [u7] at v7; simpa using v7
  simp only [allPut, Act.put, u0, u1, u2, u3, u4, u5, u6, u7]
  clear v5 v6 v7 u0 u1 u2 u3 u4 u5 u6 u7
  have i5 := hI 5 (by simp)
  have i6 := hI 6 (by simp)
  have i7 := hI 7 (by simp)
  have d56 := hD 5 6 (by simp) (by simp) (by omega)
  have d57 := hD 5 7 (by simp) (by simp) (by omega)
  simp at i5 i6 i7
  have hc := fun (b o : Nat) (h : b < w.heap.size + 3) => hK.cell (p := ⟨b, o, none⟩) (by simpa using h) (by simp)
  have hz := fun (b o : Nat) (h : b < w.heap.size + 3) => hK.frozen (p := ⟨b, o, none⟩) (by simpa using h) (by simp)
  have c50 := cellAt g5 0
  have c51 := cellAt g5 1
  have c60 := cellAt g6 0
  have c61 := cellAt g6 1
  have c70 := cellAt g7 0
  have c71 := cellAt g7 1
  simp only [List.getElem?_toArray, List.getElem?_cons_zero, List.getElem?_cons_succ] at c50 c51 c60 c61 c70 c71
  have z50 := frozenAt g5 0
  have z51 := frozenAt g5 1
  have n5 : (w.heap.size + 2 = b5) = False := by simp; omega
  have n6 : (w.heap.size + 2 = b6) = False := by simp; omega
  have n7 : (w.heap.size + 2 = b7) = False := by simp; omega
  have n5' : (b5 = w.heap.size + 2) = False := by simp; omega
  have n6' : (b6 = w.heap.size + 2) = False := by simp; omega
  have n7' : (b7 = w.heap.size + 2) = False := by simp; omega
  have n56 : (b5 = b6) = False := by simp; omega
  have n65 : (b6 = b5) = False := by simp; omega
  have n57 : (b5 = b7) = False := by simp; omega
  have n75 : (b7 = b5) = False := by simp; omega
  have hB : Below w.heap.size w wc := (((Below.refl _ _).alloc (Nat.le_refl _) _).alloc (by simp) _ |>.alloc (by simp; omega) _).trans (hK.below.mono (by simp; omega))
  have hsz : w.heap.size + 3 ≤ wc.heap.size := by simpa using hK.size
  have m5 : w.heap.size ≤ b5 := by omega
  have G5 : Hid (wc.heap[b5]? = some (.cells #[fl px, fl py] 64 (0, 0))) := g5
  have M5 : Hid (b5 < wc.heap.size ∧ b6 < wc.heap.size ∧ b7 < wc.heap.size ∧ w.heap.size + 3 ≤ b5 ∧ b6 ≠ b5 ∧ b7 ≠ b5) := ⟨by omega, by omega, by omega, by omega, by omega, by omega⟩
  clear hK hI hD g5 g6 g7 d56 d57 i5 i6 i7 l5 h5 l6 h6 l7 h7
  go_wp2_with (simp only [s1, s2, s3, s4, q1, q2])
  refine wp_loop_rounds 1 ?_
  rw [rounds_succ]
  go_wp2_with (simp only [s5, s6, s7, s8, q3, q4])
  all_goals
    refine bodyPost_ret (v := .agg #[.bool false, .bool false]) (by simp [results, Tryz.results31, go_sem, hc]) rfl ⟨rfl, ?_⟩
    exact (hB.setCell (by simp; omega) _).setCell (by simp; omega) _

set_option maxRecDepth 100000 in
set_option maxHeartbeats 1000000 in
theorem ray_down_mid_gt_l {ax ay bx bY px py : Nat} {Ax Ay Bx By Px Py : Int} (hax : Rep ax Ax) (hay : Rep ay Ay) (hbx : Rep bx Bx) (hby : Rep bY By) (hpx : Rep px Px) (hpy : Rep py Py) (h1 : By < Ay) (h2 : Bx < Ax) (h3 : By < Py ∧ Py < Ay) (hx : Px ≤ Bx) (hcr : (Px - Ax) * (By - Ay) ≠ (Py - Ay) * (Bx - Ax)) (b1 : -16384 ≤ Ax ∧ Ax ≤ 16384 ∧ -16384 ≤ Ay ∧ Ay ≤ 16384 ∧ -16384 ≤ Bx ∧ Bx ≤ 16384 ∧ -16384 ≤ By ∧ By ≤ 16384 ∧ -16384 ≤ Px ∧ Px ≤ 16384 ∧ -16384 ≤ Py ∧ Py ≤ 16384) (w : World) :
    Calls Tryz.prog 31 #[.agg #[fl ax, fl ay, fl bx, fl bY], .agg #[fl px, fl py]] w fun e w' => e = .returned (.agg #[.bool true, .bool false]) ∧ Below w.heap.size w w' := by
  have o1 := oR hpx hax
  have o2 := oR hpx hbx
  have o3 := oR hpy hay
  have o4 := oR hpy hby
  have o5 := oR hay hby
  have o6 := oR hax hbx
  obtain ⟨d1, e1, r1⟩ := sub_rep hpx hax (by omega)
  obtain ⟨d2, e2, r2⟩ := sub_rep hbx hax (by omega)
  obtain ⟨d3, e3, r3⟩ := sub_rep hpy hay (by omega)
  obtain ⟨d4, e4, r4⟩ := sub_rep hby hay (by omega)
  have s1 := runSub (P := Tryz.prog) e1
  have s2 := runSub (P := Tryz.prog) e2
  have s3 := runSub (P := Tryz.prog) e3
  have s4 := runSub (P := Tryz.prog) e4
  obtain ⟨k1, f1, t1⟩ := div_rep r1 r2 (by omega)
  obtain ⟨k2, f2, t2⟩ := div_rep r3 r4 (by omega)
  have q1 := runQuo (P := Tryz.prog) f1
  have q2 := runQuo (P := Tryz.prog) f2
  have hq := quo_ne t1 t2 (by omega) (by omega) (by omega) (by omega) (by omega) (by omega) hcr
  clear t1 t2 r1 r2 r3 r4 e1 e2 e3 e4 f1 f2 hcr
  go_enter Tryz.func31, Tryz.ntmps31
  go_wp2
  refine wp_region_K [] [.val (.agg #[fl px, fl py]), .val (.pointer (some ⟨w.heap.size, 0, none⟩)), .val (.agg #[fl ax, fl ay]), .val (.pointer (some ⟨w.heap.size, 2, none⟩)), .val (.agg #[fl bx, fl bY]),
      .made 64 2, .made 64 2, .made 64 2, .filled 5 #[fl px, fl py] 64, .filled 6 #[fl ax, fl ay] 64, .filled 7 #[fl bx, fl bY] 64]
    [[.ini 3], [.ini 2], [.frm 1 9], [.ini 2], [.frm 3 11], [], [], [], [.frm 5 5, .frm 0 8], [.frm 6 6, .frm 2 10], [.frm 7 7, .frm 4 12]]
    mixed (by kernel_rfl) (by kernel_rfl) (by simp [Ent.val, Ent.made, Ent.filledP]) ⟨OpOk.quiet rfl ?_, OpOk.quiet rfl ?_, OpOk.quiet rfl ?_, OpOk.quiet rfl ?_, OpOk.quiet rfl ?_, OpOk.made (cs := #[fl 0, fl 0]) rfl rfl ?_, OpOk.made (cs := #[fl 0, fl 0]) rfl rfl ?_, OpOk.made (cs := #[fl 0, fl 0]) rfl rfl ?_,
      OpOk.fillRow (k := 5) rfl rfl (by kernel_rfl) rfl ?_ (by kernel_rfl) (by simp [Value.oneCell']) ?_ ?_, OpOk.fillRow (k := 6) rfl rfl (by kernel_rfl) rfl ?_ (by kernel_rfl) (by simp [Value.oneCell']) ?_ ?_, OpOk.fillRow (k := 7) rfl rfl (by kernel_rfl) rfl ?_ (by kernel_rfl) (by simp [Value.oneCell']) ?_ ?_, trivial⟩ ?_
  all_goals first
    | (intro a u hG hf
       simp [facts, Need.fact, Ent.val, Act.eval] at hf
       have hc := fun (b o : Nat) (h : b < w.heap.size + 3) => hG.cell (p := ⟨b, o, none⟩) (by simpa using h) (by simp)
       go_simp
       done)
    | (simp [Ent.val, Ent.made, Ent.filledP]; done)
    | exact fun a w hf => ⟨hf.1, hf.2.1.elim fun _ h => h.elim fun _ h => h⟩
    | exact fun w b cs h hb => Keep.setRow h (.inl hb)
    | skip
  intro u l h wc hK hE hI hD
  simp [allE, allPut, Act.put, Act.eval, Ent.val, Ent.made, Ent.filledP] at hE
  obtain ⟨u0, u1, u2, u3, u4, ⟨b5, u5, l5, h5, -⟩, ⟨b6, u6, l6, h6, -⟩, ⟨b7, u7, l7, h7, -⟩, ⟨b5', v5, g5⟩, ⟨b6', v6, g6⟩, ⟨b7', v7, g7⟩⟩ := hE
  obtain rfl : b5 = b5' := by rw [u5] at v5; simpa using v5
  obtain rfl : b6 = b6' := by rw [u6] at v6; simpa using v6
  obtain rfl : b7 = b7' := by rw [u7] at v7; simpa using v7
  simp only [allPut, Act.put, u0, u1, u2, u3, u4, u5, u6, u7]
  clear v5 v6 v7 u0 u1 u2 u3 u4 u5 u6 u7
  have i5 := hI 5 (by simp)
  have i6 := hI 6 (by simp)
  have i7 := hI 7 (by simp)
  have d56 := hD 5 6 (by simp) (by simp) (by omega)
  have d57 := hD 5 7 (by simp) (by simp) (by omega)
  simp at i5 i6 i7
  have hc := fun (b o : Nat) (h : b < w.heap.size + 3) => hK.cell (p := ⟨b, o, none⟩) (by simpa using h) (by simp)
  have hz := fun (b o : Nat) (h : b < w.heap.size + 3) => hK.frozen (p := ⟨b, o, none⟩) (by simpa using h) (by simp)
  have c50 := cellAt g5 0
  have c51 := cellAt g5 1
  have c60 := cellAt g6 0
  have c61 := cellAt g6 1
  have c70 := cellAt g7 0
  have c71 := cellAt g7 1
  simp only [List.getElem?_toArray, List.getElem?_cons_zero, List.getElem?_cons_succ] at c50 c51 c60 c61 c70 c71
  have z50 := frozenAt g5 0
  have z51 := frozenAt g5 1
  have n5 : (w.heap.size + 2 = b5) = False := by simp; omega
  have n6 : (w.heap.size + 2 = b6) = False := by simp; omega
  have n7 : (w.heap.size + 2 = b7) = False := by simp; omega
  have n5' : (b5 = w.heap.size + 2) = False := by simp; omega
  have n6' : (b6 = w.heap.size + 2) = False := by simp; omega
  have n7' : (b7 = w.heap.size + 2) = False := by simp; omega
  have n56 : (b5 = b6) = False := by simp; omega
  have n65 : (b6 = b5) = False := by simp; omega
  have n57 : (b5 = b7) = False := by simp; omega
  have n75 : (b7 = b5) = False := by simp; omega
  have hB : Below w.heap.size w wc := (((Below.refl _ _).alloc (Nat.le_refl _) _).alloc (by simp) _ |>.alloc (by simp; omega) _).trans (hK.below.mono (by simp; omega))
  have hsz : w.heap.size + 3 ≤ wc.heap.size := by simpa using hK.size
  have m5 : w.heap.size ≤ b5 := by omega
  have G5 : Hid (wc.heap[b5]? = some (.cells #[fl px, fl py] 64 (0, 0))) := g5
  have M5 : Hid (b5 < wc.heap.size ∧ b6 < wc.heap.size ∧ b7 < wc.heap.size ∧ w.heap.size + 3 ≤ b5 ∧ b6 ≠ b5 ∧ b7 ≠ b5) := ⟨by omega, by omega, by omega, by omega, by omega, by omega⟩
  clear hK hI hD g5 g6 g7 d56 d57 i5 i6 i7 l5 h5 l6 h6 l7 h7
  go_wp2_with (simp only [s1, s2, s3, s4, q1, q2])
  refine wp_loop_rounds 1 ?_
  rw [rounds_succ]
  go_wp2_with (simp only [s1, s2, s3, s4, q1, q2])
  all_goals
    refine bodyPost_ret (v := .agg #[.bool true, .bool false]) (by simp [results, Tryz.results31, go_sem, hc]) rfl ⟨rfl, ?_⟩
    exact (hB.setCell (by simp; omega) _).setCell (by simp; omega) _

set_option maxRecDepth 100000 in
set_option maxHeartbeats 1000000 in
theorem ray_down_mid_gt_r {ax ay bx bY px py : Nat} {Ax Ay Bx By Px Py : Int} (hax : Rep ax Ax) (hay : Rep ay Ay) (hbx : Rep bx Bx) (hby : Rep bY By) (hpx : Rep px Px) (hpy : Rep py Py) (h1 : By < Ay) (h2 : Bx < Ax) (h3 : By < Py ∧ Py < Ay) (hx : Ax ≤ Px) (hcr : (Px - Ax) * (By - Ay) ≠ (Py - Ay) * (Bx - Ax)) (b1 : -16384 ≤ Ax ∧ Ax ≤ 16384 ∧ -16384 ≤ Ay ∧ Ay ≤ 16384 ∧ -16384 ≤ Bx ∧ Bx ≤ 16384 ∧ -16384 ≤ By ∧ By ≤ 16384 ∧ -16384 ≤ Px ∧ Px ≤ 16384 ∧ -16384 ≤ Py ∧ Py ≤ 16384) (w : World) :
    Calls Tryz.prog 31 #[.agg #[fl ax, fl ay, fl bx, fl bY], .agg #[fl px, fl py]] w fun e w' => e = .returned (.agg #[.bool false, .bool false]) ∧ Below w.heap.size w w' := by
  have o1 := oR hpx hax
  have o2 := oR hpx hbx
  have o3 := oR hpy hay
  have o4 := oR hpy hby
  have o5 := oR hay hby
  have o6 := oR hax hbx
  obtain ⟨d1, e1, r1⟩ := sub_rep hpx hax (by omega)
  obtain ⟨d2, e2, r2⟩ := sub_rep hbx hax (by omega)
  obtain ⟨d3, e3, r3⟩ := sub_rep hpy hay (by omega)
  obtain ⟨d4, e4, r4⟩ := sub_rep hby hay (by omega)
  have s1 := runSub (P := Tryz.prog) e1
  have s2 := runSub (P := Tryz.prog) e2
  have s3 := runSub (P := Tryz.prog) e3
  have s4 := runSub (P := Tryz.prog) e4
  obtain ⟨k1, f1, t1⟩ := div_rep r1 r2 (by omega)
  obtain ⟨k2, f2, t2⟩ := div_rep r3 r4 (by omega)
  have q1 := runQuo (P := Tryz.prog) f1
  have q2 := runQuo (P := Tryz.prog) f2
  have hq := quo_ne t1 t2 (by omega) (by omega) (by omega) (by omega) (by omega) (by omega) hcr
  clear t1 t2 r1 r2 r3 r4 e1 e2 e3 e4 f1 f2 hcr
  go_enter Tryz.func31, Tryz.ntmps31
  go_wp2
  refine wp_region_K [] [.val (.agg #[fl px, fl py]), .val (.pointer (some ⟨w.heap.size, 0, none⟩)), .val (.agg #[fl ax, fl ay]), .val (.pointer (some ⟨w.heap.size, 2, none⟩)), .val (.agg #[fl bx, fl bY]),
      .made 64 2, .made 64 2, .made 64 2, .filled 5 #[fl px, fl py] 64, .filled 6 #[fl ax, fl ay] 64, .filled 7 #[fl bx, fl bY] 64]
    [[.ini 3], [.ini 2], [.frm 1 9], [.ini 2], [.frm 3 11], [], [], [], [.frm 5 5, .frm 0 8], [.frm 6 6, .frm 2 10], [.frm 7 7, .frm 4 12]]
    mixed (by kernel_rfl) (by kernel_rfl) (by simp [Ent.val, Ent.made, Ent.filledP]) ⟨OpOk.quiet rfl ?_, OpOk.quiet rfl ?_, OpOk.quiet rfl ?_, OpOk.quiet rfl ?_, OpOk.quiet rfl ?_, OpOk.made (cs := #[fl 0, fl 0]) rfl rfl ?_, OpOk.made (cs := #[fl 0, fl 0]) rfl rfl ?_, OpOk.made (cs := #[fl 0, fl 0]) rfl rfl ?_,
      OpOk.fillRow (k := 5) rfl rfl (by kernel_rfl) rfl ?_ (by kernel_rfl) (by simp [Value.oneCell']) ?_ ?_, OpOk.fillRow (k := 6) rfl rfl (by kernel_rfl) rfl ?_ (by kernel_rfl) (by simp [Value.oneCell']) ?_ ?_, OpOk.fillRow (k := 7) rfl rfl (by kernel_rfl) rfl ?_ (by kernel_rfl) (by simp [Value.oneCell']) ?_ ?_, trivial⟩ ?_
  all_goals first
    | (intro a u hG hf
       simp [facts, Need.fact, Ent.val, Act.eval] at hf
       have hc := fun (b o : Nat) (h : b < w.heap.size + 3) => hG.cell (p := ⟨b, o, none⟩) (by simpa using h) (by simp)
       go_simp
       done)
    | (simp [Ent.val, Ent.made, Ent.filledP]; done)
    | exact fun a w hf => ⟨hf.1, hf.2.1.elim fun _ h => h.elim fun _ h => h⟩
    | exact fun w b cs h hb => Keep.setRow h (.inl hb)
    | skip
  intro u l h wc hK hE hI hD
  simp [allE, allPut, Act.put, Act.eval, Ent.val, Ent.made, Ent.filledP] at hE
  obtain ⟨u0, u1, u2, u3, u4, ⟨b5, u5, l5, h5, -⟩, ⟨b6, u6, l6, h6, -⟩, ⟨b7, u7, l7, h7, -⟩, ⟨b5', v5, g5⟩, ⟨b6', v6, g6⟩, ⟨b7', v7, g7⟩⟩ := hE
  obtain rfl : b5 = b5' := by rw [u5] at v5; simpa using v5
  obtain rfl : b6 = b6' := by rw [u6] at v6; simpa using v6
  obtain rfl : b7 = b7' := by rw [u7] at v7; simpa using v7
  simp only [allPut, Act.put, u0, u1, u2, u3, u4, u5, u6, u7]
  clear v5 v6 v7 u0 u1 u2 u3 u4 u5 u6 u7
  have i5 := hI 5 (by simp)
  have i6 := hI 6 (by simp)
  have i7 := hI 7 (by simp)
  have d56 := hD 5 6 (by simp) (by simp) (by omega)
  have d57 := hD 5 7 (by simp) (by simp) (by omega)
  simp at i5 i6 i7
  have hc := fun (b o : Nat) (h : b < w.heap.size + 3) => hK.cell (p := ⟨b, o, none⟩) (by simpa using h) (by simp)
  have hz := fun (b o : Nat) (h : b < w.heap.size + 3) => hK.frozen (p := ⟨b, o, none⟩) (by simpa using h) (by simp)
  have c50 := cellAt g5 0
  have c51 := cellAt g5 1
  have c60 := cellAt g6 0
  have c61 := cellAt g6 1
  have c70 := cellAt g7 0
  have c71 := cellAt g7 1
  simp only [List.getElem?_toArray, List.getElem?_cons_zero, List.getElem?_cons_succ] at c50 c51 c60 c61 c70 c71
  have z50 := frozenAt g5 0
  have z51 := frozenAt g5 1
  have n5 : (w.heap.size + 2 = b5) = False := by simp; omega
  have n6 : (w.heap.size + 2 = b6) = False := by simp; omega
  have n7 : (w.heap.size + 2 = b7) = False := by simp; omega
  have n5' : (b5 = w.heap.size + 2) = False := by simp; omega
  have n6' : (b6 = w.heap.size + 2) = False := by simp; omega
  have n7' : (b7 = w.heap.size + 2) = False := by simp; omega
  have n56 : (b5 = b6) = False := by simp; omega
  have n65 : (b6 = b5) = False := by simp; omega
  have n57 : (b5 = b7) = False := by simp; omega
  have n75 : (b7 = b5) = False := by simp; omega
  have hB : Below w.heap.size w wc := (((Below.refl _ _).alloc (Nat.le_refl _) _).alloc (by simp) _ |>.alloc (by simp; omega) _).trans (hK.below.mono (by simp; omega))
  have hsz : w.heap.size + 3 ≤ wc.heap.size := by simpa using hK.size
  have m5 : w.heap.size ≤ b5 := by omega
  have G5 : Hid (wc.heap[b5]? = some (.cells #[fl px, fl py] 64 (0, 0))) := g5
  have M5 : Hid (b5 < wc.heap.size ∧ b6 < wc.heap.size ∧ b7 < wc.heap.size ∧ w.heap.size + 3 ≤ b5 ∧ b6 ≠ b5 ∧ b7 ≠ b5) := ⟨by omega, by omega, by omega, by omega, by omega, by omega⟩
  clear hK hI hD g5 g6 g7 d56 d57 i5 i6 i7 l5 h5 l6 h6 l7 h7
  go_wp2_with (simp only [s1, s2, s3, s4, q1, q2])
  refine wp_loop_rounds 1 ?_
  rw [rounds_succ]
  go_wp2_with (simp only [s1, s2, s3, s4, q1, q2])
  all_goals
    refine bodyPost_ret (v := .agg #[.bool false, .bool false]) (by simp [results, Tryz.results31, go_sem, hc]) rfl ⟨rfl, ?_⟩
    exact (hB.setCell (by simp; omega) _).setCell (by simp; omega) _

set_option maxRecDepth 100000 in
set_option maxHeartbeats 1000000 in
theorem ray_down_mid_gt_bt {ax ay bx bY px py : Nat} {Ax Ay Bx By Px Py : Int} (hax : Rep ax Ax) (hay : Rep ay Ay) (hbx : Rep bx Bx) (hby : Rep bY By) (hpx : Rep px Px) (hpy : Rep py Py) (h1 : By < Ay) (h2 : Bx < Ax) (h3 : By < Py ∧ Py < Ay) (hx : Bx < Px) (hy : Px < Ax) (hs : (Ay - By) * (Px - Bx) ≤ (Py - By) * (Ax - Bx)) (hcr : (Px - Ax) * (By - Ay) ≠ (Py - Ay) * (Bx - Ax)) (b1 : -16384 ≤ Ax ∧ Ax ≤ 16384 ∧ -16384 ≤ Ay ∧ Ay ≤ 16384 ∧ -16384 ≤ Bx ∧ Bx ≤ 16384 ∧ -16384 ≤ By ∧ By ≤ 16384 ∧ -16384 ≤ Px ∧ Px ≤ 16384 ∧ -16384 ≤ Py ∧ Py ≤ 16384) (w : World) :
    Calls Tryz.prog 31 #[.agg #[fl ax, fl ay, fl bx, fl bY], .agg #[fl px, fl py]] w fun e w' => e = .returned (.agg #[.bool true, .bool false]) ∧ Below w.heap.size w w' := by
  have o1 := oR hpx hax
  have o2 := oR hpx hbx
  have o3 := oR hpy hay
  have o4 := oR hpy hby
  have o5 := oR hay hby
  have o6 := oR hax hbx
  obtain ⟨d1, e1, r1⟩ := sub_rep hpx hax (by omega)
  obtain ⟨d2, e2, r2⟩ := sub_rep hbx hax (by omega)
  obtain ⟨d3, e3, r3⟩ := sub_rep hpy hay (by omega)
  obtain ⟨d4, e4, r4⟩ := sub_rep hby hay (by omega)
  have s1 := runSub (P := Tryz.prog) e1
  have s2 := runSub (P := Tryz.prog) e2
  have s3 := runSub (P := Tryz.prog) e3
  have s4 := runSub (P := Tryz.prog) e4
  obtain ⟨d5, e5, r5⟩ := sub_rep hpy hby (by omega)
  obtain ⟨d6, e6, r6⟩ := sub_rep hpx hbx (by omega)
  obtain ⟨d7, e7, r7⟩ := sub_rep hay hby (by omega)
  obtain ⟨d8, e8, r8⟩ := sub_rep hax hbx (by omega)
  have s5 := runSub (P := Tryz.prog) e5
  have s6 := runSub (P := Tryz.prog) e6
  have s7 := runSub (P := Tryz.prog) e7
  have s8 := runSub (P := Tryz.prog) e8
  obtain ⟨k1, f1, t1⟩ := div_rep r1 r2 (by omega)
  obtain ⟨k2, f2, t2⟩ := div_rep r3 r4 (by omega)
  have q1 := runQuo (P := Tryz.prog) f1
  have q2 := runQuo (P := Tryz.prog) f2
  have hq := quo_ne t1 t2 (by omega) (by omega) (by omega) (by omega) (by omega) (by omega) hcr
  obtain ⟨k3, f3, t3⟩ := div_rep r5 r6 (by omega)
  obtain ⟨k4, f4, t4⟩ := div_rep r7 r8 (by omega)
  have q3 := runQuo (P := Tryz.prog) f3
  have q4 := runQuo (P := Tryz.prog) f4
  have hpos : 0 < (Px - Bx) * (Ax - Bx) := Int.mul_pos (by omega) (by omega)
  have og := quo_ge t3 t4 hpos (by omega) (by omega) (by omega) (by omega) hs
  have ob : (FloatKind.f64.format.order k3 k4 == some .gt || FloatKind.f64.format.order k3 k4 == some .eq) = true := by
    rcases og with h | h <;> rw [h] <;> rfl
  clear og
  clear t1 t2 t3 t4 hpos hs hcr r1 r2 r3 r4 e1 e2 e3 e4 f1 f2 f3 f4 r5 r6 r7 r8 e5 e6 e7 e8
  go_enter Tryz.func31, Tryz.ntmps31
  go_wp2
  refine wp_region_K [] [.val (.agg #[fl px, fl py]), .val (.pointer (some ⟨w.heap.size, 0, none⟩)), .val (.agg #[fl ax, fl ay]), .val (.pointer (some ⟨w.heap.size, 2, none⟩)), .val (.agg #[fl bx, fl bY]),
      .made 64 2, .made 64 2, .made 64 2, .filled 5 #[fl px, fl py] 64, .filled 6 #[fl ax, fl ay] 64, .filled 7 #[fl bx, fl bY] 64]
    [[.ini 3], [.ini 2], [.frm 1 9], [.ini 2], [.frm 3 11], [], [], [], [.frm 5 5, .frm 0 8], [.frm 6 6, .frm 2 10], [.frm 7 7, .frm 4 12]]
    mixed (by kernel_rfl) (by kernel_rfl) (by simp [Ent.val, Ent.made, Ent.filledP]) ⟨OpOk.quiet rfl ?_, OpOk.quiet rfl ?_, OpOk.quiet rfl ?_, OpOk.quiet rfl ?_, OpOk.quiet rfl ?_, OpOk.made (cs := #[fl 0, fl 0]) rfl rfl ?_, OpOk.made (cs := #[fl 0, fl 0]) rfl rfl ?_, OpOk.made (cs := #[fl 0, fl 0]) rfl rfl ?_,
      OpOk.fillRow (k := 5) rfl rfl (by kernel_rfl) rfl ?_ (by kernel_rfl) (by simp [Value.oneCell']) ?_ ?_, OpOk.fillRow (k := 6) rfl rfl (by kernel_rfl) rfl ?_ (by kernel_rfl) (by simp [Value.oneCell']) ?_ ?_, OpOk.fillRow (k := 7) rfl rfl (by kernel_rfl) rfl ?_ (by kernel_rfl) (by simp [Value.oneCell']) ?_ ?_, trivial⟩ ?_
  all_goals first
    | (intro a u hG hf
       simp [facts, Need.fact, Ent.val, Act.eval] at hf
       have hc := fun (b o : Nat) (h : b < w.heap.size + 3) => hG.cell (p := ⟨b, o, none⟩) (by simpa using h) (by simp)
       go_simp
       done)
    | (simp [Ent.val, Ent.made, Ent.filledP]; done)
    | exact fun a w hf => ⟨hf.1, hf.2.1.elim fun _ h => h.elim fun _ h => h⟩
    | exact fun w b cs h hb => Keep.setRow h (.inl hb)
    | skip
  intro u l h wc hK hE hI hD
  simp [allE, allPut, Act.put, Act.eval, Ent.val, Ent.made, Ent.filledP] at hE
  obtain ⟨u0, u1, u2, u3, u4, ⟨b5, u5, l5, h5, -⟩, ⟨b6, u6, l6, h6, -⟩, ⟨b7, u7, l7, h7, -⟩, ⟨b5', v5, g5⟩, ⟨b6', v6, g6⟩, ⟨b7', v7, g7⟩⟩ := hE
  obtain rfl : b5 = b5' := by rw [u5] at v5; simpa using v5
  obtain rfl : b6 = b6' := by rw [u6] at v6; simpa using v6
  obtain rfl : b7 = b7' := by rw [u7] at v7; simpa using v7
  simp only [allPut, Act.put, u0, u1, u2, u3, u4, u5, u6, u7]
  clear v5 v6 v7 u0 u1 u2 u3 u4 u5 u6 u7
  have i5 := hI 5 (by simp)
  have i6 := hI 6 (by simp)
  have i7 := hI 7 (by simp)
  have d56 := hD 5 6 (by simp) (by simp) (by omega)
  have d57 := hD 5 7 (by simp) (by simp) (by omega)
  simp at i5 i6 i7
  have hc := fun (b o : Nat) (h : b < w.heap.size + 3) => hK.cell (p := ⟨b, o, none⟩) (by simpa using h) (by simp)
  have hz := fun (b o : Nat) (h : b < w.heap.size + 3) => hK.frozen (p := ⟨b, o, none⟩) (by simpa using h) (by simp)
  have c50 := cellAt g5 0
  have c51 := cellAt g5 1
  have c60 := cellAt g6 0
  have c61 := cellAt g6 1
  have c70 := cellAt g7 0
  have c71 := cellAt g7 1
  simp only [List.getElem?_toArray, List.getElem?_cons_zero, List.getElem?_cons_succ] at c50 c51 c60 c61 c70 c71
  have z50 := frozenAt g5 0
  have z51 := frozenAt g5 1
  have n5 : (w.heap.size + 2 = b5) = False := by simp; omega
  have n6 : (w.heap.size + 2 = b6) = False := by simp; omega
  have n7 : (w.heap.size + 2 = b7) = False := by simp; omega
  have n5' : (b5 = w.heap.size + 2) = False := by simp; omega
  have n6' : (b6 = w.heap.size + 2) = False := by simp; omega
  have n7' : (b7 = w.heap.size + 2) = False := by simp; omega
  have n56 : (b5 = b6) = False := by simp; omega
  have n65 : (b6 = b5) = False := by simp; omega
  have n57 : (b5 = b7) = False := by simp; omega
  have n75 : (b7 = b5) = False := by simp; omega
  have hB : Below w.heap.size w wc := (((Below.refl _ _).alloc (Nat.le_refl _) _).alloc (by simp) _ |>.alloc (by simp; omega) _).trans (hK.below.mono (by simp; omega))
  have hsz : w.heap.size + 3 ≤ wc.heap.size := by simpa using hK.size
  have m5 : w.heap.size ≤ b5 := by omega
  have G5 : Hid (wc.heap[b5]? = some (.cells #[fl px, fl py] 64 (0, 0))) := g5
  have M5 : Hid (b5 < wc.heap.size ∧ b6 < wc.heap.size ∧ b7 < wc.heap.size ∧ w.heap.size + 3 ≤ b5 ∧ b6 ≠ b5 ∧ b7 ≠ b5) := ⟨by omega, by omega, by omega, by omega, by omega, by omega⟩
  clear hK hI hD g5 g6 g7 d56 d57 i5 i6 i7 l5 h5 l6 h6 l7 h7
  go_wp2_with (simp only [s1, s2, s3, s4, q1, q2])
  refine wp_loop_rounds 1 ?_
  rw [rounds_succ]
  go_wp2_with (simp only [s5, s6, s7, s8, q3, q4])
  all_goals
    refine bodyPost_ret (v := .agg #[.bool true, .bool false]) (by simp [results, Tryz.results31, go_sem, hc]) rfl ⟨rfl, ?_⟩
    exact (hB.setCell (by simp; omega) _).setCell (by simp; omega) _

set_option maxRecDepth 100000 in
set_option maxHeartbeats 1000000 in
theorem ray_down_mid_gt_bf {ax ay bx bY px py : Nat} {Ax Ay Bx By Px Py : Int} (hax : Rep ax Ax) (hay : Rep ay Ay) (hbx : Rep bx Bx) (hby : Rep bY By) (hpx : Rep px Px) (hpy : Rep py Py) (h1 : By < Ay) (h2 : Bx < Ax) (h3 : By < Py ∧ Py < Ay) (hx : Bx < Px) (hy : Px < Ax) (hs : (Py - By) * (Ax - Bx) < (Ay - By) * (Px - Bx)) (hcr : (Px - Ax) * (By - Ay) ≠ (Py - Ay) * (Bx - Ax)) (b1 : -16384 ≤ Ax ∧ Ax ≤ 16384 ∧ -16384 ≤ Ay ∧ Ay ≤ 16384 ∧ -16384 ≤ Bx ∧ Bx ≤ 16384 ∧ -16384 ≤ By ∧ By ≤ 16384 ∧ -16384 ≤ Px ∧ Px ≤ 16384 ∧ -16384 ≤ Py ∧ Py ≤ 16384) (w : World) :
    Calls Tryz.prog 31 #[.agg #[fl ax, fl ay, fl bx, fl bY], .agg #[fl px, fl py]] w fun e w' => e = .returned (.agg #[.bool false, .bool false]) ∧ Below w.heap.size w w' := by
  have o1 := oR hpx hax
  have o2 := oR hpx hbx
  have o3 := oR hpy hay
  have o4 := oR hpy hby
  have o5 := oR hay hby
  have o6 := oR hax hbx
  obtain ⟨d1, e1, r1⟩ := sub_rep hpx hax (by omega)
  obtain ⟨d2, e2, r2⟩ := sub_rep hbx hax (by omega)
  obtain ⟨d3, e3, r3⟩ := sub_rep hpy hay (by omega)
  obtain ⟨d4, e4, r4⟩ := sub_rep hby hay (by omega)
  have s1 := runSub (P := Tryz.prog) e1
  have s2 := runSub (P := Tryz.prog) e2
  have s3 := runSub (P := Tryz.prog) e3
  have s4 := runSub (P := Tryz.prog) e4
  obtain ⟨d5, e5, r5⟩ := sub_rep hpy hby (by omega)
  obtain ⟨d6, e6, r6⟩ := sub_rep hpx hbx (by omega)
  obtain ⟨d7, e7, r7⟩ := sub_rep hay hby (by omega)
  obtain ⟨d8, e8, r8⟩ := sub_rep hax hbx (by omega)
  have s5 := runSub (P := Tryz.prog) e5
  have s6 := runSub (P := Tryz.prog) e6
  have s7 := runSub (P := Tryz.prog) e7
  have s8 := runSub (P := Tryz.prog) e8
  obtain ⟨k1, f1, t1⟩ := div_rep r1 r2 (by omega)
  obtain ⟨k2, f2, t2⟩ := div_rep r3 r4 (by omega)
  have q1 := runQuo (P := Tryz.prog) f1
  have q2 := runQuo (P := Tryz.prog) f2
  have hq := quo_ne t1 t2 (by omega) (by omega) (by omega) (by omega) (by omega) (by omega) hcr
  obtain ⟨k3, f3, t3⟩ := div_rep r5 r6 (by omega)
  obtain ⟨k4, f4, t4⟩ := div_rep r7 r8 (by omega)
  have q3 := runQuo (P := Tryz.prog) f3
  have q4 := runQuo (P := Tryz.prog) f4
  have hpos : 0 < (Px - Bx) * (Ax - Bx) := Int.mul_pos (by omega) (by omega)
  have og := quo_lt' t3 t4 hpos (by omega) (by omega) (by omega) (by omega) hs
  clear t1 t2 t3 t4 hpos hs hcr r1 r2 r3 r4 e1 e2 e3 e4 f1 f2 f3 f4 r5 r6 r7 r8 e5 e6 e7 e8
  go_enter Tryz.func31, Tryz.ntmps31
  go_wp2
  refine wp_region_K [] [.val (.agg #[fl px, fl py]), .val (.pointer (some ⟨w.heap.size, 0, none⟩)), .val (.agg #[fl ax, fl ay]), .val (.pointer (some ⟨w.heap.size, 2, none⟩)), .val (.agg #[fl bx, fl bY]),
      .made 64 2, .made 64 2, .made 64 2, .filled 5 #[fl px, fl py] 64, .filled 6 #[fl ax, fl ay] 64, .filled 7 #[fl bx, fl bY] 64]
    [[.ini 3], [.ini 2], [.frm 1 9], [.ini 2], [.frm 3 11], [], [], [], [.frm 5 5, .frm 0 8], [.frm 6 6, .frm 2 10], [.frm 7 7, .frm 4 12]]
    mixed (by kernel_rfl) (by kernel_rfl) (by simp [Ent.val, Ent.made, Ent.filledP]) ⟨OpOk.quiet rfl ?_, OpOk.quiet rfl ?_, OpOk.quiet rfl ?_, OpOk.quiet rfl ?_, OpOk.quiet rfl ?_, OpOk.made (cs := #[fl 0, fl 0]) rfl rfl ?_, OpOk.made (cs := #[fl 0, fl 0]) rfl rfl ?_, OpOk.made (cs := #[fl 0, fl 0]) rfl rfl ?_,
      OpOk.fillRow (k := 5) rfl rfl (by kernel_rfl) rfl ?_ (by kernel_rfl) (by simp [Value.oneCell']) ?_ ?_, OpOk.fillRow (k := 6) rfl rfl (by kernel_rfl) rfl ?_ (by kernel_rfl) (by simp [Value.oneCell']) ?_ ?_, OpOk.fillRow (k := 7) rfl rfl (by kernel_rfl) rfl ?_ (by kernel_rfl) (by simp [Value.oneCell']) ?_ ?_, trivial⟩ ?_
  all_goals first
    | (intro a u hG hf
       simp [facts, Need.fact, Ent.val, Act.eval] at hf
       have hc := fun (b o : Nat) (h : b < w.heap.size + 3) => hG.cell (p := ⟨b, o, none⟩) (by simpa using h) (by simp)
       go_simp
       done)
    | (simp [Ent.val, Ent.made, Ent.filledP]; done)
    | exact fun a w hf => ⟨hf.1, hf.2.1.elim fun _ h => h.elim fun _ h => h⟩
    | exact fun w b cs h hb => Keep.setRow h (.inl hb)
    | skip
  intro u l h wc hK hE hI hD
  simp [allE, allPut, Act.put, Act.eval, Ent.val, Ent.made, Ent.filledP] at hE
  obtain ⟨u0, u1, u2, u3, u4, ⟨b5, u5, l5, h5, -⟩, ⟨b6, u6, l6, h6, -⟩, ⟨b7, u7, l7, h7, -⟩, ⟨b5', v5, g5⟩, ⟨b6', v6, g6⟩, ⟨b7', v7, g7⟩⟩ := hE
  obtain rfl : b5 = b5' := by rw [u5] at v5; simpa using v5
  obtain rfl : b6 = b6' := by rw [u6] at v6; simpa using v6
  obtain rfl : b7 = b7' := by rw [u7] at v7; simpa using v7
  simp only [allPut, Act.put, u0, u1, u2, u3, u4, u5, u6, u7]
  clear v5 v6 v7 u0 u1 u2 u3 u4 u5 u6 u7
  have i5 := hI 5 (by simp)
  have i6 := hI 6 (by simp)
  have i7 := hI 7 (by simp)
  have d56 := hD 5 6 (by simp) (by simp) (by omega)
  have d57 := hD 5 7 (by simp) (by simp) (by omega)
  simp at i5 i6 i7
  have hc := fun (b o : Nat) (h : b < w.heap.size + 3) => hK.cell (p := ⟨b, o, none⟩) (by simpa using h) (by simp)
  have hz := fun (b o : Nat) (h : b < w.heap.size + 3) => hK.frozen (p := ⟨b, o, none⟩) (by simpa using h) (by simp)
  have c50 := cellAt g5 0
  have c51 := cellAt g5 1
  have c60 := cellAt g6 0
  have c61 := cellAt g6 1
  have c70 := cellAt g7 0
  have c71 := cellAt g7 1
  simp only [List.getElem?_toArray, List.getElem?_cons_zero, List.getElem?_cons_succ] at c50 c51 c60 c61 c70 c71
  have z50 := frozenAt g5 0
  have z51 := frozenAt g5 1
  have n5 : (w.heap.size + 2 = b5) = False := by simp; omega
  have n6 : (w.heap.size + 2 = b6) = False := by simp; omega
  have n7 : (w.heap.size + 2 = b7) = False := by simp; omega
  have n5' : (b5 = w.heap.size + 2) = False := by simp; omega
  have n6' : (b6 = w.heap.size + 2) = False := by simp; omega
  have n7' : (b7 = w.heap.size + 2) = False := by simp; omega
  have n56 : (b5 = b6) = False := by simp; omega
  have n65 : (b6 = b5) = False := by simp; omega
  have n57 : (b5 = b7) = False := by simp; omega
  have n75 : (b7 = b5) = False := by simp; omega
  have hB : Below w.heap.size w wc := (((Below.refl _ _).alloc (Nat.le_refl _) _).alloc (by simp) _ |>.alloc (by simp; omega) _).trans (hK.below.mono (by simp; omega))
  have hsz : w.heap.size + 3 ≤ wc.heap.size := by simpa using hK.size
  have m5 : w.heap.size ≤ b5 := by omega
  have G5 : Hid (wc.heap[b5]? = some (.cells #[fl px, fl py] 64 (0, 0))) := g5
  have M5 : Hid (b5 < wc.heap.size ∧ b6 < wc.heap.size ∧ b7 < wc.heap.size ∧ w.heap.size + 3 ≤ b5 ∧ b6 ≠ b5 ∧ b7 ≠ b5) := ⟨by omega, by omega, by omega, by omega, by omega, by omega⟩
  clear hK hI hD g5 g6 g7 d56 d57 i5 i6 i7 l5 h5 l6 h6 l7 h7
  go_wp2_with (simp only [s1, s2, s3, s4, q1, q2])
  refine wp_loop_rounds 1 ?_
  rw [rounds_succ]
  go_wp2_with (simp only [s5, s6, s7, s8, q3, q4])
  all_goals
    refine bodyPost_ret (v := .agg #[.bool false, .bool false]) (by simp [results, Tryz.results31, go_sem, hc]) rfl ⟨rfl, ?_⟩
    exact (hB.setCell (by simp; omega) _).setCell (by simp; omega) _
end Go.Proofs.YtdlcckkphjpeoaaGreat
