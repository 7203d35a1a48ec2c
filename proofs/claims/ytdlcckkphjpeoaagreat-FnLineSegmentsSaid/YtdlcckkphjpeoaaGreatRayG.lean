import Derived.Test.YtdlcckkphjpeoaaGreatRows
import Derived.Test.YtdlcckkphjpeoaaGreatMath
import Derived.Test.YtdlcckkphjpeoaaGreatJr
import Derived.Deep.DeepCutAuto
set_option linter.unusedSimpArgs false
set_option linter.unusedVariables false
namespace Go.Proofs.YtdlcckkphjpeoaaGreat
open Go.RowKit PF JR
set_option maxRecDepth 100000 in
set_option maxHeartbeats 1000000 in
theorem ray_down_top_eq_l {ax ay bx bY px py : Nat} {Ax Ay Bx By Px Py : Int} (hax : Rep ax Ax) (hay : Rep ay Ay) (hbx : Rep bx Bx) (hby : Rep bY By) (hpx : Rep px Px) (hpy : Rep py Py) (h1 : By < Ay) (h2 : Ax = Bx) (h3 : Py = Ay) (hx : Px < Ax) (b1 : -16384 ≤ Ax ∧ Ax ≤ 16384 ∧ -16384 ≤ Ay ∧ Ay ≤ 16384 ∧ -16384 ≤ Bx ∧ Bx ≤ 16384 ∧ -16384 ≤ By ∧ By ≤ 16384 ∧ -16384 ≤ Px ∧ Px ≤ 16384 ∧ -16384 ≤ Py ∧ Py ≤ 16384) (w : World) :
    Calls Tryz.prog 31 #[.agg #[fl ax, fl ay, fl bx, fl bY], .agg #[fl px, fl py]] w fun e w' => e = .returned (.agg #[.bool false, .bool false]) ∧ Below w.heap.size w w' := by
  have o1 := oR hpx hax
  have o2 := oR hpx hbx
  have o3 := oR hpy hay
  have o4 := oR hpy hby
  have o5 := oR hay hby
  have o6 := oR hax hbx
  obtain ⟨d1, e1, r1⟩ := sub_rep hpx hax (by omega)
  obtain ⟨d2, e2, r2⟩ := sub_rep hbx hax (by omega)
  obtain ⟨d3, e3, r3⟩ := sub_rep hpy hay (by omega)
  obtain ⟨d4, e4, r4⟩ := sub_rep hby hay (by omega)
  have s1 := runSub (P := Tryz.prog) e1
  have s2 := runSub (P := Tryz.prog) e2
  have s3 := runSub (P := Tryz.prog) e3
  have s4 := runSub (P := Tryz.prog) e4
  obtain ⟨k2, f2, t2⟩ := div_rep r3 r4 (by omega)
  have f1 := div_zero r1 (by rw [h2] at r2; simpa using r2) (by omega)
  have q1 := runQuo (P := Tryz.prog) f1
  have q2 := runQuo (P := Tryz.prog) f2
  have oq := order_inf_left (s := (d1 / 9223372036854775808 % 2 == 1 ^^ d2 / 9223372036854775808 % 2 == 1)) (quo_fin t2 (by omega) (by omega))
  generalize Ieee.double.word (d1 / 9223372036854775808 % 2 == 1 ^^ d2 / 9223372036854775808 % 2 == 1) 9218868437227405312 = k1 at *
  have hq : (FloatKind.f64.format.order k1 k2 == some .eq) = false := by
    have : FloatKind.f64.format.order k1 k2 = _ := oq
    rw [this]
    cases (d1 / 9223372036854775808 % 2 == 1 ^^ d2 / 9223372036854775808 % 2 == 1) <;> rfl
  clear oq
  clear t2 r1 r2 r3 r4 e1 e2 e3 e4 f1 f2
  go_enter Tryz.func31, Tryz.ntmps31
  go_wp2
  refine wp_region_K [] [.val (.agg #[fl px, fl py]), .val (.pointer (some ⟨w.heap.size, 0, none⟩)), .val (.agg #[fl ax, fl ay]), .val (.pointer (some ⟨w.heap.size, 2, none⟩)), .val (.agg #[fl bx, fl bY]),
      .made 64 2, .made 64 2, .made 64 2, .filled 5 #[fl px, fl py] 64, .filled 6 #[fl ax, fl ay] 64, .filled 7 #[fl bx, fl bY] 64]
    [[.ini 3], [.ini 2], [.frm 1 9], [.ini 2], [.frm 3 11], [], [], [], [.frm 5 5, .frm 0 8], [.frm 6 6, .frm 2 10], [.frm 7 7, .frm 4 12]]
    mixed (by kernel_rfl) (by kernel_rfl) (by simp [Ent.val, Ent.made, Ent.filledP]) ⟨OpOk.quiet rfl ?_, OpOk.quiet rfl ?_, OpOk.quiet rfl ?_, OpOk.quiet rfl ?_, OpOk.quiet rfl ?_, OpOk.made (cs := #[fl 0, fl 0]) rfl rfl ?_, OpOk.made (cs := #[fl 0, fl 0]) rfl rfl ?_, OpOk.made (cs := #[fl 0, fl 0]) rfl rfl ?_,
      OpOk.fillRow (k := 5) rfl rfl (by kernel_rfl) rfl ?_ (by kernel_rfl) (by simp [Value.oneCell']) ?_ ?_, OpOk.fillRow (k := 6) rfl rfl (by kernel_rfl) rfl ?_ (by kernel_rfl) (by simp [Value.oneCell']) ?_ ?_, OpOk.fillRow (k := 7) rfl rfl (by kernel_rfl) rfl ?_ (by kernel_rfl) (by simp [Value.oneCell']) ?_ ?_, trivial⟩ ?_
  all_goals first
    | (intro a u hG hf
       simp [facts, Need.fact, Ent.val, Act.eval] at hf
       have hc := fun (b o : Nat) (h : b < w.heap.size + 3) => hG.cell (p := ⟨b, o, none⟩) (by simpa using h) (by simp)
       go_simp
       done)
    | (simp [Ent.val, Ent.made, Ent.filledP]; done)
    | exact fun a w hf => ⟨hf.1, hf.2.1.elim fun _ h => h.elim fun _ h => h⟩
    | exact fun w b cs h hb => Keep.setRow h (.inl hb)
    | skip
  intro u l h wc hK hE hI hD
  simp [allE, allPut, Act.put, Act.eval, Ent.val, Ent.made, Ent.filledP] at hE
  obtain ⟨u0, u1, u2, u3, u4, ⟨b5, u5, l5, h5, -⟩, ⟨b6, u6, l6, h6, -⟩, ⟨b7, u7, l7, h7, -⟩, ⟨b5', v5, g5⟩, ⟨b6', v6, g6⟩, ⟨b7', v7, g7⟩⟩ := hE
  obtain rfl : b5 = b5' := by rw [u5] at v5; simpa using v5
  obtain rfl : b6 = b6' := by rw [u6] at v6; simpa using v6
  obtain rfl : b7 = b7' := by rw [u7] at v7; simpa using v7
  simp only [allPut, Act.put, u0, u1, u2, u3, u4, u5, u6, u7]
  clear v5 v6 v7 u0 u1 u2 u3 u4 u5 u6 u7
  have i5 := hI 5 (by simp)
  have i6 := hI 6 (by simp)
  have i7 := hI 7 (by simp)
  have d56 := hD 5 6 (by simp) (by simp) (by omega)
  have d57 := hD 5 7 (by simp) (by simp) (by omega)
  simp at i5 i6 i7
  have hc := fun (b o : Nat) (h : b < w.heap.size + 3) => hK.cell (p := ⟨b, o, none⟩) (by simpa using h) (by simp)
  have hz := fun (b o : Nat) (h : b < w.heap.size + 3) => hK.frozen (p := ⟨b, o, none⟩) (by simpa using h) (by simp)
  have c50 := cellAt g5 0
  have c51 := cellAt g5 1
  have c60 := cellAt g6 0
  have c61 := cellAt g6 1
  have c70 := cellAt g7 0
  have c71 := cellAt g7 1
  simp only [List.getElem?_toArray, List.getElem?_cons_zero, List.getElem?_cons_succ] at c50 c51 c60 c61 c70 c71
  have z50 := frozenAt g5 0
  have z51 := frozenAt g5 1
  have n5 : (w.heap.size + 2 = b5) = False := by simp; omega
  have n6 : (w.heap.size + 2 = b6) = False := by simp; omega
  have n7 : (w.heap.size + 2 = b7) = False := by simp; omega
  have n5' : (b5 = w.heap.size + 2) = False := by simp; omega
  have n6' : (b6 = w.heap.size + 2) = False := by simp; omega
  have n7' : (b7 = w.heap.size + 2) = False := by simp; omega
  have n56 : (b5 = b6) = False := by simp; omega
  have n65 : (b6 = b5) = False := by simp; omega
  have n57 : (b5 = b7) = False := by simp; omega
  have n75 : (b7 = b5) = False := by simp; omega
  have hB : Below w.heap.size w wc := (((Below.refl _ _).alloc (Nat.le_refl _) _).alloc (by simp) _ |>.alloc (by simp; omega) _).trans (hK.below.mono (by simp; omega))
  have hsz : w.heap.size + 3 ≤ wc.heap.size := by simpa using hK.size
  have m5 : w.heap.size ≤ b5 := by omega
  have G5 : Hid (wc.heap[b5]? = some (.cells #[fl px, fl py] 64 (0, 0))) := g5
  have M5 : Hid (b5 < wc.heap.size ∧ b6 < wc.heap.size ∧ b7 < wc.heap.size ∧ w.heap.size + 3 ≤ b5 ∧ b6 ≠ b5 ∧ b7 ≠ b5) := ⟨by omega, by omega, by omega, by omega, by omega, by omega⟩
  clear hK hI hD g5 g6 g7 d56 d57 i5 i6 i7 l5 h5 l6 h6 l7 h7
  go_wp2_with (simp only [s1, s2, s3, s4, q1, q2])
  refine wp_loop_rounds 2 ?_
  rw [rounds_succ]
  go_wp2_with fail
  refine wp_region_K [b5] [.val (.pointer (some ⟨b5, 1, none⟩)), .val (fl py), .val (fl 9218868437227405312), .of (fun v => ∃ x', v = fl x' ∧ Nxt x' Py), .val (.pointer (some ⟨b5, 1, none⟩)),
      .turn b5 #[fl px, fl py] (fun cs => ∃ x', cs = #[fl px, fl x'] ∧ Nxt x' Py) 64]
    [[.ini 5], [.frm 0 183, .til 5], [], [.frm 1 184, .frm 2 185], [.ini 5], [.frm 4 187, .frm 3 186, .til 5]]
    mixed (by kernel_rfl) (by kernel_rfl) (by simp [Ent.val, Ent.of, Ent.turn]; exact G5.out) ⟨OpOk.quiet rfl ?_, OpOk.quiet rfl ?_, OpOk.call rfl ?_, OpOk.call rfl ?_, OpOk.quiet rfl ?_, OpOk.turn rfl ?_ (by kernel_rfl) ?_ ?_ ?_, trivial⟩ ?_
  · intro a u hG hf
    simp [facts, Need.fact, Ent.val, Act.eval] at hf
    go_simp
  · intro a u hG hf
    have hf2 : u.heap[b5]? = some (.cells #[fl px, fl py] 64 (0, 0)) := hf.2.1
    have hc5 := cellAt hf2 1
    simp only [List.getElem?_toArray, List.getElem?_cons_zero, List.getElem?_cons_succ] at hc5
    simp [facts, Need.fact, Ent.val, Ent.turn, Act.eval] at hf
    go_simp
  · intro a u hG hf
    refine ⟨_, _, by go_simp, (inf_c _).mono ?_⟩
    rintro e w' ⟨rfl, rfl⟩
    exact ⟨_, rfl, Ext.refl _, rfl⟩
  · intro a u hG hf
    simp [facts, Need.fact, Ent.val, Act.eval] at hf
    refine ⟨_, _, by go_simp, (nextafter_c hpy (by omega) _).mono ?_⟩
    rintro e w' ⟨x', rfl, hN, rfl⟩
    exact ⟨_, rfl, Ext.refl _, x', rfl, hN⟩
  · intro a u hG hf
    simp [facts, Need.fact, Ent.val, Act.eval] at hf
    go_simp
  · exact M5.out.1
  · intro j e he hj
    match j, he, hj with
    | 0, he, _ => simp at he; subst he; simp [Ent.val]
    | 1, he, _ => simp at he; subst he; simp [Ent.val]
    | 2, he, _ => simp at he; subst he; simp [Ent.val]
    | 3, he, _ => simp at he; subst he; simp [Ent.of]
    | 4, he, _ => simp at he; subst he; simp [Ent.val]
    | 5, _, hj => exact absurd rfl hj
    | j + 6, he, _ => simp at he
  · intro a u hG hf
    obtain ⟨⟨_, _, f1⟩, ⟨_, _, x', f2, hN⟩, f3, _⟩ := hf
    have f1 : a.eval (.tmp 187) = .pointer (some ⟨b5, 1, none⟩) := f1
    have f2 : a.eval (.tmp 186) = fl x' := f2
    have f3 : u.heap[b5]? = some (.cells #[fl px, fl py] 64 (0, 0)) := f3
    exact ⟨_, _, _, f3, run_store_cell 53 (.tmp 187) (.tmp 186) rfl b5 1 (fl x') f1 f2 64 _ f3 (by kernel_rfl) (by simp) rfl, .inl rfl, x', rfl, hN⟩
  · exact fun u cs h => Keep.setRow h (.inr (by simp))
  intro u' l' h' wd hK' hE' hI' hD'
  simp [allE, allPut, Act.put, Act.eval, Ent.val, Ent.of, Ent.turn] at hE'
  obtain ⟨v0, v1, v2, ⟨x0, v3, -⟩, v4, cs', ⟨x', rfl, hN⟩, g5'⟩ := hE'
  simp only [allPut, Act.put, v0, v1, v2, v3, v4]
  clear v0 v1 v2 v3 v4 hI' hD'
  have m56 := M5.out
  have hcd := fun (b o : Nat) (h : b < w.heap.size + 3) => (hK'.cell (p := ⟨b, o, none⟩) (show b < wc.heap.size by omega) (show b ∉ [b5] by simp; omega)).trans (hc b o h)
  have hzd := fun (b o : Nat) (h : b < w.heap.size + 3) => (hK'.frozen (p := ⟨b, o, none⟩) (show b < wc.heap.size by omega) (show b ∉ [b5] by simp; omega)).trans (hz b o h)
  have k60 : wd.cell? ⟨b6, 0, none⟩ = some (fl ax) := (hK'.cell (p := ⟨b6, 0, none⟩) m56.2.1 (by simp; omega)).trans c60
  have k61 : wd.cell? ⟨b6, 1, none⟩ = some (fl ay) := (hK'.cell (p := ⟨b6, 1, none⟩) m56.2.1 (by simp; omega)).trans c61
  have k70 : wd.cell? ⟨b7, 0, none⟩ = some (fl bx) := (hK'.cell (p := ⟨b7, 0, none⟩) m56.2.2.1 (by simp; omega)).trans c70
  have k71 : wd.cell? ⟨b7, 1, none⟩ = some (fl bY) := (hK'.cell (p := ⟨b7, 1, none⟩) m56.2.2.1 (by simp; omega)).trans c71
  have k50 := cellAt g5' 0
  have k51 := cellAt g5' 1
  simp only [List.getElem?_toArray, List.getElem?_cons_zero, List.getElem?_cons_succ] at k50 k51
  have hBd : Below w.heap.size w wd := hB.trans ⟨hK'.os, hK'.tape, hK'.output, hK'.size, fun k hk => hK'.block k (show k < wc.heap.size by omega) (by simp; omega)⟩
  clear hK' m56 g5' c50 c51 c60 c61 c70 c71 z50 z51 hc hz G5 M5
  have p1 := nxt_gt hN hay (by omega)
  have p2 := nxt_gt hN hby (by omega)
  clear hN
  go_wp2
  rw [rounds_succ]
  go_wp2_with (simp only [Bool.true_eq_false])
  all_goals
    refine bodyPost_ret (v := .agg #[.bool false, .bool false]) (by simp [results, Tryz.results31, go_sem, hcd]) rfl ⟨rfl, ?_⟩
    exact (hBd.setCell (by simp; omega) _).setCell (by simp; omega) _

set_option maxRecDepth 100000 in
set_option maxHeartbeats 1000000 in
theorem ray_down_top_eq_r {ax ay bx bY px py : Nat} {Ax Ay Bx By Px Py : Int} (hax : Rep ax Ax) (hay : Rep ay Ay) (hbx : Rep bx Bx) (hby : Rep bY By) (hpx : Rep px Px) (hpy : Rep py Py) (h1 : By < Ay) (h2 : Ax = Bx) (h3 : Py = Ay) (hx : Ax < Px) (b1 : -16384 ≤ Ax ∧ Ax ≤ 16384 ∧ -16384 ≤ Ay ∧ Ay ≤ 16384 ∧ -16384 ≤ Bx ∧ Bx ≤ 16384 ∧ -16384 ≤ By ∧ By ≤ 16384 ∧ -16384 ≤ Px ∧ Px ≤ 16384 ∧ -16384 ≤ Py ∧ Py ≤ 16384) (w : World) :
    Calls Tryz.prog 31 #[.agg #[fl ax, fl ay, fl bx, fl bY], .agg #[fl px, fl py]] w fun e w' => e = .returned (.agg #[.bool false, .bool false]) ∧ Below w.heap.size w w' := by
  have o1 := oR hpx hax
  have o2 := oR hpx hbx
  have o3 := oR hpy hay
  have o4 := oR hpy hby
  have o5 := oR hay hby
  have o6 := oR hax hbx
  obtain ⟨d1, e1, r1⟩ := sub_rep hpx hax (by omega)
  obtain ⟨d2, e2, r2⟩ := sub_rep hbx hax (by omega)
  obtain ⟨d3, e3, r3⟩ := sub_rep hpy hay (by omega)
  obtain ⟨d4, e4, r4⟩ := sub_rep hby hay (by omega)
  have s1 := runSub (P := Tryz.prog) e1
  have s2 := runSub (P := Tryz.prog) e2
  have s3 := runSub (P := Tryz.prog) e3
  have s4 := runSub (P := Tryz.prog) e4
  obtain ⟨k2, f2, t2⟩ := div_rep r3 r4 (by omega)
  have f1 := div_zero r1 (by rw [h2] at r2; simpa using r2) (by omega)
  have q1 := runQuo (P := Tryz.prog) f1
  have q2 := runQuo (P := Tryz.prog) f2
  have oq := order_inf_left (s := (d1 / 9223372036854775808 % 2 == 1 ^^ d2 / 9223372036854775808 % 2 == 1)) (quo_fin t2 (by omega) (by omega))
  generalize Ieee.double.word (d1 / 9223372036854775808 % 2 == 1 ^^ d2 / 9223372036854775808 % 2 == 1) 9218868437227405312 = k1 at *
  have hq : (FloatKind.f64.format.order k1 k2 == some .eq) = false := by
    have : FloatKind.f64.format.order k1 k2 = _ := oq
    rw [this]
    cases (d1 / 9223372036854775808 % 2 == 1 ^^ d2 / 9223372036854775808 % 2 == 1) <;> rfl
  clear oq
  clear t2 r1 r2 r3 r4 e1 e2 e3 e4 f1 f2
  go_enter Tryz.func31, Tryz.ntmps31
  go_wp2
  refine wp_region_K [] [.val (.agg #[fl px, fl py]), .val (.pointer (some ⟨w.heap.size, 0, none⟩)), .val (.agg #[fl ax, fl ay]), .val (.pointer (some ⟨w.heap.size, 2, none⟩)), .val (.agg #[fl bx, fl bY]),
      .made 64 2, .made 64 2, .made 64 2, .filled 5 #[fl px, fl py] 64, .filled 6 #[fl ax, fl ay] 64, .filled 7 #[fl bx, fl bY] 64]
    [[.ini 3], [.ini 2], [.frm 1 9], [.ini 2], [.frm 3 11], [], [], [], [.frm 5 5, .frm 0 8], [.frm 6 6, .frm 2 10], [.frm 7 7, .frm 4 12]]
    mixed (by kernel_rfl) (by kernel_rfl) (by simp [Ent.val, Ent.made, Ent.filledP]) ⟨OpOk.quiet rfl ?_, OpOk.quiet rfl ?_, OpOk.quiet rfl ?_, OpOk.quiet rfl ?_, OpOk.quiet rfl ?_, OpOk.made (cs := #[fl 0, fl 0]) rfl rfl ?_, OpOk.made (cs := #[fl 0, fl 0]) rfl rfl ?_, OpOk.made (cs := #[fl 0, fl 0]) rfl rfl ?_,
      OpOk.fillRow (k := 5) rfl rfl (by kernel_rfl) rfl ?_ (by kernel_rfl) (by simp [Value.oneCell']) ?_ ?_, OpOk.fillRow (k := 6) rfl rfl (by kernel_rfl) rfl ?_ (by kernel_rfl) (by simp [Value.oneCell']) ?_ ?_, OpOk.fillRow (k := 7) rfl rfl (by kernel_rfl) rfl ?_ (by kernel_rfl) (by simp [Value.oneCell']) ?_ ?_, trivial⟩ ?_
  all_goals first
    | (intro a u hG hf
       simp [facts, Need.fact, Ent.val, Act.eval] at hf
       have hc := fun (b o : Nat) (h : b < w.heap.size + 3) => hG.cell (p := ⟨b, o, none⟩) (by simpa using h) (by simp)
       go_simp
       done)
    | (simp [Ent.val, Ent.made, Ent.filledP]; done)
    | exact fun a w hf => ⟨hf.1, hf.2.1.elim fun _ h => h.elim fun _ h => h⟩
    | exact fun w b cs h hb => Keep.setRow h (.inl hb)
    | skip
  intro u l h wc hK hE hI hD
  simp [allE, allPut, Act.put, Act.eval, Ent.val, Ent.made, Ent.filledP] at hE
  obtain ⟨u0, u1, u2, u3, u4, ⟨b5, u5, l5, h5, -⟩, ⟨b6, u6, l6, h6, -⟩, ⟨b7, u7, l7, h7, -⟩, ⟨b5', v5, g5⟩, ⟨b6', v6, g6⟩, ⟨b7', v7, g7⟩⟩ := hE
  obtain rfl : b5 = b5' := by rw [u5] at v5; simpa using v5
  obtain rfl : b6 = b6' := by rw [u6] at v6; simpa using v6
  obtain rfl : b7 = b7' := by rw [u7] at v7; simpa using v7
  simp only [allPut, Act.put, u0, u1, u2, u3, u4, u5, u6, u7]
  clear v5 v6 v7 u0 u1 u2 u3 u4 u5 u6 u7
  have i5 := hI 5 (by simp)
  have i6 := hI 6 (by simp)
  have i7 := hI 7 (by simp)
  have d56 := hD 5 6 (by simp) (by simp) (by omega)
  have d57 := hD 5 7 (by simp) (by simp) (by omega)
  simp at i5 i6 i7
  have hc := fun (b o : Nat) (h : b < w.heap.size + 3) => hK.cell (p := ⟨b, o, none⟩) (by simpa using h) (by simp)
  have hz := fun (b o : Nat) (h : b < w.heap.size + 3) => hK.frozen (p := ⟨b, o, none⟩) (by simpa using h) (by simp)
  have c50 := cellAt g5 0
  have c51 := cellAt g5 1
  have c60 := cellAt g6 0
  have c61 := cellAt g6 1
  have c70 := cellAt g7 0
  have c71 := cellAt g7 1
  simp only [List.getElem?_toArray, List.getElem?_cons_zero, List.getElem?_cons_succ] at c50 c51 c60 c61 c70 c71
  have z50 := frozenAt g5 0
  have z51 := frozenAt g5 1
  have n5 : (w.heap.size + 2 = b5) = False := by simp; omega
  have n6 : (w.heap.size + 2 = b6) = False := by simp; omega
  have n7 : (w.heap.size + 2 = b7) = False := by simp; omega
  have n5' : (b5 = w.heap.size + 2) = False := by simp; omega
  have n6' : (b6 = w.heap.size + 2) = False := by simp; omega
  have n7' : (b7 = w.heap.size + 2) = False := by simp; omega
  have n56 : (b5 = b6) = False := by simp; omega
  have n65 : (b6 = b5) = False := by simp; omega
  have n57 : (b5 = b7) = False := by simp; omega
  have n75 : (b7 = b5) = False := by simp; omega
  have hB : Below w.heap.size w wc := (((Below.refl _ _).alloc (Nat.le_refl _) _).alloc (by simp) _ |>.alloc (by simp; omega) _).trans (hK.below.mono (by simp; omega))
  have hsz : w.heap.size + 3 ≤ wc.heap.size := by simpa using hK.size
  have m5 : w.heap.size ≤ b5 := by omega
  have G5 : Hid (wc.heap[b5]? = some (.cells #[fl px, fl py] 64 (0, 0))) := g5
  have M5 : Hid (b5 < wc.heap.size ∧ b6 < wc.heap.size ∧ b7 < wc.heap.size ∧ w.heap.size + 3 ≤ b5 ∧ b6 ≠ b5 ∧ b7 ≠ b5) := ⟨by omega, by omega, by omega, by omega, by omega, by omega⟩
  clear hK hI hD g5 g6 g7 d56 d57 i5 i6 i7 l5 h5 l6 h6 l7 h7
  go_wp2_with (simp only [s1, s2, s3, s4, q1, q2])
  refine wp_loop_rounds 2 ?_
  rw [rounds_succ]
  go_wp2_with fail
  refine wp_region_K [b5] [.val (.pointer (some ⟨b5, 1, none⟩)), .val (fl py), .val (fl 9218868437227405312), .of (fun v => ∃ x', v = fl x' ∧ Nxt x' Py), .val (.pointer (some ⟨b5, 1, none⟩)),
      .turn b5 #[fl px, fl py] (fun cs => ∃ x', cs = #[fl px, fl x'] ∧ Nxt x' Py) 64]
    [[.ini 5], [.frm 0 183, .til 5], [], [.frm 1 184, .frm 2 185], [.ini 5], [.frm 4 187, .frm 3 186, .til 5]]
    mixed (by kernel_rfl) (by kernel_rfl) (by simp [Ent.val, Ent.of, Ent.turn]; exact G5.out) ⟨OpOk.quiet rfl ?_, OpOk.quiet rfl ?_, OpOk.call rfl ?_, OpOk.call rfl ?_, OpOk.quiet rfl ?_, OpOk.turn rfl ?_ (by kernel_rfl) ?_ ?_ ?_, trivial⟩ ?_
  · intro a u hG hf
    simp [facts, Need.fact, Ent.val, Act.eval] at hf
    go_simp
  · intro a u hG hf
    have hf2 : u.heap[b5]? = some (.cells #[fl px, fl py] 64 (0, 0)) := hf.2.1
    have hc5 := cellAt hf2 1
    simp only [List.getElem?_toArray, List.getElem?_cons_zero, List.getElem?_cons_succ] at hc5
    simp [facts, Need.fact, Ent.val, Ent.turn, Act.eval] at hf
    go_simp
  · intro a u hG hf
    refine ⟨_, _, by go_simp, (inf_c _).mono ?_⟩
    rintro e w' ⟨rfl, rfl⟩
    exact ⟨_, rfl, Ext.refl _, rfl⟩
  · intro a u hG hf
    simp [facts, Need.fact, Ent.val, Act.eval] at hf
    refine ⟨_, _, by go_simp, (nextafter_c hpy (by omega) _).mono ?_⟩
    rintro e w' ⟨x', rfl, hN, rfl⟩
    exact ⟨_, rfl, Ext.refl _, x', rfl, hN⟩
  · intro a u hG hf
    simp [facts, Need.fact, Ent.val, Act.eval] at hf
    go_simp
  · exact M5.out.1
  · intro j e he hj
    match j, he, hj with
    | 0, he, _ => simp at he; subst he; simp [Ent.val]
    | 1, he, _ => simp at he; subst he; simp [Ent.val]
    | 2, he, _ => simp at he; subst he; simp [Ent.val]
    | 3, he, _ => simp at he; subst he; simp [Ent.of]
    | 4, he, _ => simp at he; subst he; simp [Ent.val]
    | 5, _, hj => exact absurd rfl hj
    | j + 6, he, _ => simp at he
  · intro a u hG hf
    obtain ⟨⟨_, _, f1⟩, ⟨_, _, x', f2, hN⟩, f3, _⟩ := hf
    have f1 : a.eval (.tmp 187) = .pointer (some ⟨b5, 1, none⟩) := f1
    have f2 : a.eval (.tmp 186) = fl x' := f2
    have f3 : u.heap[b5]? = some (.cells #[fl px, fl py] 64 (0, 0)) := f3
    exact ⟨_, _, _, f3, run_store_cell 53 (.tmp 187) (.tmp 186) rfl b5 1 (fl x') f1 f2 64 _ f3 (by kernel_rfl) (by simp) rfl, .inl rfl, x', rfl, hN⟩
  · exact fun u cs h => Keep.setRow h (.inr (by simp))
  intro u' l' h' wd hK' hE' hI' hD'
  simp [allE, allPut, Act.put, Act.eval, Ent.val, Ent.of, Ent.turn] at hE'
  obtain ⟨v0, v1, v2, ⟨x0, v3, -⟩, v4, cs', ⟨x', rfl, hN⟩, g5'⟩ := hE'
  simp only [allPut, Act.put, v0, v1, v2, v3, v4]
  clear v0 v1 v2 v3 v4 hI' hD'
  have m56 := M5.out
  have hcd := fun (b o : Nat) (h : b < w.heap.size + 3) => (hK'.cell (p := ⟨b, o, none⟩) (show b < wc.heap.size by omega) (show b ∉ [b5] by simp; omega)).trans (hc b o h)
  have hzd := fun (b o : Nat) (h : b < w.heap.size + 3) => (hK'.frozen (p := ⟨b, o, none⟩) (show b < wc.heap.size by omega) (show b ∉ [b5] by simp; omega)).trans (hz b o h)
  have k60 : wd.cell? ⟨b6, 0, none⟩ = some (fl ax) := (hK'.cell (p := ⟨b6, 0, none⟩) m56.2.1 (by simp; omega)).trans c60
  have k61 : wd.cell? ⟨b6, 1, none⟩ = some (fl ay) := (hK'.cell (p := ⟨b6, 1, none⟩) m56.2.1 (by simp; omega)).trans c61
  have k70 : wd.cell? ⟨b7, 0, none⟩ = some (fl bx) := (hK'.cell (p := ⟨b7, 0, none⟩) m56.2.2.1 (by simp; omega)).trans c70
  have k71 : wd.cell? ⟨b7, 1, none⟩ = some (fl bY) := (hK'.cell (p := ⟨b7, 1, none⟩) m56.2.2.1 (by simp; omega)).trans c71
  have k50 := cellAt g5' 0
  have k51 := cellAt g5' 1
  simp only [List.getElem?_toArray, List.getElem?_cons_zero, List.getElem?_cons_succ] at k50 k51
  have hBd : Below w.heap.size w wd := hB.trans ⟨hK'.os, hK'.tape, hK'.output, hK'.size, fun k hk => hK'.block k (show k < wc.heap.size by omega) (by simp; omega)⟩
  clear hK' m56 g5' c50 c51 c60 c61 c70 c71 z50 z51 hc hz G5 M5
  have p1 := nxt_gt hN hay (by omega)
  have p2 := nxt_gt hN hby (by omega)
  clear hN
  go_wp2
  rw [rounds_succ]
  go_wp2_with (simp only [Bool.true_eq_false])
  all_goals
    refine bodyPost_ret (v := .agg #[.bool false, .bool false]) (by simp [results, Tryz.results31, go_sem, hcd]) rfl ⟨rfl, ?_⟩
    exact (hBd.setCell (by simp; omega) _).setCell (by simp; omega) _

set_option maxRecDepth 100000 in
set_option maxHeartbeats 1000000 in
theorem ray_down_top_lt {ax ay bx bY px py : Nat} {Ax Ay Bx By Px Py : Int} (hax : Rep ax Ax) (hay : Rep ay Ay) (hbx : Rep bx Bx) (hby : Rep bY By) (hpx : Rep px Px) (hpy : Rep py Py) (h1 : By < Ay) (h2 : Ax < Bx) (h3 : Py = Ay) (hcr : (Px - Ax) * (By - Ay) ≠ (Py - Ay) * (Bx - Ax)) (b1 : -16384 ≤ Ax ∧ Ax ≤ 16384 ∧ -16384 ≤ Ay ∧ Ay ≤ 16384 ∧ -16384 ≤ Bx ∧ Bx ≤ 16384 ∧ -16384 ≤ By ∧ By ≤ 16384 ∧ -16384 ≤ Px ∧ Px ≤ 16384 ∧ -16384 ≤ Py ∧ Py ≤ 16384) (w : World) :
    Calls Tryz.prog 31 #[.agg #[fl ax, fl ay, fl bx, fl bY], .agg #[fl px, fl py]] w fun e w' => e = .returned (.agg #[.bool false, .bool false]) ∧ Below w.heap.size w w' := by
  have o1 := oR hpx hax
  have o2 := oR hpx hbx
  have o3 := oR hpy hay
  have o4 := oR hpy hby
  have o5 := oR hay hby
  have o6 := oR hax hbx
  obtain ⟨d1, e1, r1⟩ := sub_rep hpx hax (by omega)
  obtain ⟨d2, e2, r2⟩ := sub_rep hbx hax (by omega)
  obtain ⟨d3, e3, r3⟩ := sub_rep hpy hay (by omega)
  obtain ⟨d4, e4, r4⟩ := sub_rep hby hay (by omega)
  have s1 := runSub (P := Tryz.prog) e1
  have s2 := runSub (P := Tryz.prog) e2
  have s3 := runSub (P := Tryz.prog) e3
  have s4 := runSub (P := Tryz.prog) e4
  obtain ⟨k1, f1, t1⟩ := div_rep r1 r2 (by omega)
  obtain ⟨k2, f2, t2⟩ := div_rep r3 r4 (by omega)
  have q1 := runQuo (P := Tryz.prog) f1
  have q2 := runQuo (P := Tryz.prog) f2
  have hq := quo_ne t1 t2 (by omega) (by omega) (by omega) (by omega) (by omega) (by omega) hcr
  clear t1 t2 r1 r2 r3 r4 e1 e2 e3 e4 f1 f2 hcr
  go_enter Tryz.func31, Tryz.ntmps31
  go_wp2
  refine wp_region_K [] [.val (.agg #[fl px, fl py]), .val (.pointer (some ⟨w.heap.size, 0, none⟩)), .val (.agg #[fl ax, fl ay]), .val (.pointer (some ⟨w.heap.size, 2, none⟩)), .val (.agg #[fl bx, fl bY]),
      .made 64 2, .made 64 2, .made 64 2, .filled 5 #[fl px, fl py] 64, .filled 6 #[fl ax, fl ay] 64, .filled 7 #[fl bx, fl bY] 64]
    [[.ini 3], [.ini 2], [.frm 1 9], [.ini 2], [.frm 3 11], [], [], [], [.frm 5 5, .frm 0 8], [.frm 6 6, .frm 2 10], [.frm 7 7, .frm 4 12]]
    mixed (by kernel_rfl) (by kernel_rfl) (by simp [Ent.val, Ent.made, Ent.filledP]) ⟨OpOk.quiet rfl ?_, OpOk.quiet rfl ?_, OpOk.quiet rfl ?_, OpOk.quiet rfl ?_, OpOk.quiet rfl ?_, OpOk.made (cs := #[fl 0, fl 0]) rfl rfl ?_, OpOk.made (cs := #[fl 0, fl 0]) rfl rfl ?_, OpOk.made (cs := #[fl 0, fl 0]) rfl rfl ?_,
      OpOk.fillRow (k := 5) rfl rfl (by kernel_rfl) rfl ?_ (by kernel_rfl) (by simp [Value.oneCell']) ?_ ?_, OpOk.fillRow (k := 6) rfl rfl (by kernel_rfl) rfl ?_ (by kernel_rfl) (by simp [Value.oneCell']) ?_ ?_, OpOk.fillRow (k := 7) rfl rfl (by kernel_rfl) rfl ?_ (by kernel_rfl) (by simp [Value.oneCell']) ?_ ?_, trivial⟩ ?_
  all_goals first
    | (intro a u hG hf
       simp [facts, Need.fact, Ent.val, Act.eval] at hf
       have hc := fun (b o : Nat) (h : b < w.heap.size + 3) => hG.cell (p := ⟨b, o, none⟩) (by simpa using h) (by simp)
       go_simp
       done)
    | (simp [Ent.val, Ent.made, Ent.filledP]; done)
    | exact fun a w hf => ⟨hf.1, hf.2.1.elim fun _ h => h.elim fun _ h => h⟩
    | exact fun w b cs h hb => Keep.setRow h (.inl hb)
    | skip
  intro u l h wc hK hE hI hD
  simp [allE, allPut, Act.put, Act.eval, Ent.val, Ent.made, Ent.filledP] at hE
  obtain ⟨u0, u1, u2, u3, u4, ⟨b5, u5, l5, h5, -⟩, ⟨b6, u6, l6, h6, -⟩, ⟨b7, u7, l7, h7, -⟩, ⟨b5', v5, g5⟩, ⟨b6', v6, g6⟩, ⟨b7', v7, g7⟩⟩ := hE
  obtain rfl : b5 = b5' := by rw [u5] at v5; simpa using v5
  obtain rfl : b6 = b6' := by rw [u6] at v6; simpa using v6
  obtain rfl : b7 = b7' := by rw [u7] at v7; simpa using v7
  simp only [allPut, Act.put, u0, u1, u2, u3, u4, u5, u6, u7]
  clear v5 v6 v7 u0 u1 u2 u3 u4 u5 u6 u7
  have i5 := hI 5 (by simp)
  have i6 := hI 6 (by simp)
  have i7 := hI 7 (by simp)
  have d56 := hD 5 6 (by simp) (by simp) (by omega)
  have d57 := hD 5 7 (by simp) (by simp) (by omega)
  simp at i5 i6 i7
  have hc := fun (b o : Nat) (h : b < w.heap.size + 3) => hK.cell (p := ⟨b, o, none⟩) (by simpa using h) (by simp)
  have hz := fun (b o : Nat) (h : b < w.heap.size + 3) => hK.frozen (p := ⟨b, o, none⟩) (by simpa using h) (by simp)
  have c50 := cellAt g5 0
  have c51 := cellAt g5 1
  have c60 := cellAt g6 0
  have c61 := cellAt g6 1
  have c70 := cellAt g7 0
  have c71 := cellAt g7 1
  simp only [List.getElem?_toArray, List.getElem?_cons_zero, List.getElem?_cons_succ] at c50 c51 c60 c61 c70 c71
  have z50 := frozenAt g5 0
  have z51 := frozenAt g5 1
  have n5 : (w.heap.size + 2 = b5) = False := by simp; omega
  have n6 : (w.heap.size + 2 = b6) = False := by simp; omega
  have n7 : (w.heap.size + 2 = b7) = False := by simp; omega
  have n5' : (b5 = w.heap.size + 2) = False := by simp; omega
  have n6' : (b6 = w.heap.size + 2) = False := by simp; omega
  have n7' : (b7 = w.heap.size + 2) = False := by simp; omega
  have n56 : (b5 = b6) = False := by simp; omega
  have n65 : (b6 = b5) = False := by simp; omega
  have n57 : (b5 = b7) = False := by simp; omega
  have n75 : (b7 = b5) = False := by simp; omega
  have hB : Below w.heap.size w wc := (((Below.refl _ _).alloc (Nat.le_refl _) _).alloc (by simp) _ |>.alloc (by simp; omega) _).trans (hK.below.mono (by simp; omega))
  have hsz : w.heap.size + 3 ≤ wc.heap.size := by simpa using hK.size
  have m5 : w.heap.size ≤ b5 := by omega
  have G5 : Hid (wc.heap[b5]? = some (.cells #[fl px, fl py] 64 (0, 0))) := g5
  have M5 : Hid (b5 < wc.heap.size ∧ b6 < wc.heap.size ∧ b7 < wc.heap.size ∧ w.heap.size + 3 ≤ b5 ∧ b6 ≠ b5 ∧ b7 ≠ b5) := ⟨by omega, by omega, by omega, by omega, by omega, by omega⟩
  clear hK hI hD g5 g6 g7 d56 d57 i5 i6 i7 l5 h5 l6 h6 l7 h7
  go_wp2_with (simp only [s1, s2, s3, s4, q1, q2])
  refine wp_loop_rounds 2 ?_
  rw [rounds_succ]
  go_wp2_with fail
  refine wp_region_K [b5] [.val (.pointer (some ⟨b5, 1, none⟩)), .val (fl py), .val (fl 9218868437227405312), .of (fun v => ∃ x', v = fl x' ∧ Nxt x' Py), .val (.pointer (some ⟨b5, 1, none⟩)),
      .turn b5 #[fl px, fl py] (fun cs => ∃ x', cs = #[fl px, fl x'] ∧ Nxt x' Py) 64]
    [[.ini 5], [.frm 0 183, .til 5], [], [.frm 1 184, .frm 2 185], [.ini 5], [.frm 4 187, .frm 3 186, .til 5]]
    mixed (by kernel_rfl) (by kernel_rfl) (by simp [Ent.val, Ent.of, Ent.turn]; exact G5.out) ⟨OpOk.quiet rfl ?_, OpOk.quiet rfl ?_, OpOk.call rfl ?_, OpOk.call rfl ?_, OpOk.quiet rfl ?_, OpOk.turn rfl ?_ (by kernel_rfl) ?_ ?_ ?_, trivial⟩ ?_
  · intro a u hG hf
    simp [facts, Need.fact, Ent.val, Act.eval] at hf
    go_simp
  · intro a u hG hf
    have hf2 : u.heap[b5]? = some (.cells #[fl px, fl py] 64 (0, 0)) := hf.2.1
    have hc5 := cellAt hf2 1
    simp only [List.getElem?_toArray, List.getElem?_cons_zero, List.getElem?_cons_succ] at hc5
    simp [facts, Need.fact, Ent.val, Ent.turn, Act.eval] at hf
    go_simp
  · intro a u hG hf
    refine ⟨_, _, by go_simp, (inf_c _).mono ?_⟩
    rintro e w' ⟨rfl, rfl⟩
    exact ⟨_, rfl, Ext.refl _, rfl⟩
  · intro a u hG hf
    simp [facts, Need.fact, Ent.val, Act.eval] at hf
    refine ⟨_, _, by go_simp, (nextafter_c hpy (by omega) _).mono ?_⟩
    rintro e w' ⟨x', rfl, hN, rfl⟩
    exact ⟨_, rfl, Ext.refl _, x', rfl, hN⟩
  · intro a u hG hf
    simp [facts, Need.fact, Ent.val, Act.eval] at hf
    go_simp
  · exact M5.out.1
  · intro j e he hj
    match j, he, hj with
    | 0, he, _ => simp at he; subst he; simp [Ent.val]
    | 1, he, _ => simp at he; subst he; simp [Ent.val]
    | 2, he, _ => simp at he; subst he; simp [Ent.val]
    | 3, he, _ => simp at he; subst he; simp [Ent.of]
    | 4, he, _ => simp at he; subst he; simp [Ent.val]
    | 5, _, hj => exact absurd rfl hj
    | j + 6, he, _ => simp at he
  · intro a u hG hf
    obtain ⟨⟨_, _, f1⟩, ⟨_, _, x', f2, hN⟩, f3, _⟩ := hf
    have f1 : a.eval (.tmp 187) = .pointer (some ⟨b5, 1, none⟩) := f1
    have f2 : a.eval (.tmp 186) = fl x' := f2
    have f3 : u.heap[b5]? = some (.cells #[fl px, fl py] 64 (0, 0)) := f3
    exact ⟨_, _, _, f3, run_store_cell 53 (.tmp 187) (.tmp 186) rfl b5 1 (fl x') f1 f2 64 _ f3 (by kernel_rfl) (by simp) rfl, .inl rfl, x', rfl, hN⟩
  · exact fun u cs h => Keep.setRow h (.inr (by simp))
  intro u' l' h' wd hK' hE' hI' hD'
  simp [allE, allPut, Act.put, Act.eval, Ent.val, Ent.of, Ent.turn] at hE'
  obtain ⟨v0, v1, v2, ⟨x0, v3, -⟩, v4, cs', ⟨x', rfl, hN⟩, g5'⟩ := hE'
  simp only [allPut, Act.put, v0, v1, v2, v3, v4]
  clear v0 v1 v2 v3 v4 hI' hD'
  have m56 := M5.out
  have hcd := fun (b o : Nat) (h : b < w.heap.size + 3) => (hK'.cell (p := ⟨b, o, none⟩) (show b < wc.heap.size by omega) (show b ∉ [b5] by simp; omega)).trans (hc b o h)
  have hzd := fun (b o : Nat) (h : b < w.heap.size + 3) => (hK'.frozen (p := ⟨b, o, none⟩) (show b < wc.heap.size by omega) (show b ∉ [b5] by simp; omega)).trans (hz b o h)
  have k60 : wd.cell? ⟨b6, 0, none⟩ = some (fl ax) := (hK'.cell (p := ⟨b6, 0, none⟩) m56.2.1 (by simp; omega)).trans c60
  have k61 : wd.cell? ⟨b6, 1, none⟩ = some (fl ay) := (hK'.cell (p := ⟨b6, 1, none⟩) m56.2.1 (by simp; omega)).trans c61
  have k70 : wd.cell? ⟨b7, 0, none⟩ = some (fl bx) := (hK'.cell (p := ⟨b7, 0, none⟩) m56.2.2.1 (by simp; omega)).trans c70
  have k71 : wd.cell? ⟨b7, 1, none⟩ = some (fl bY) := (hK'.cell (p := ⟨b7, 1, none⟩) m56.2.2.1 (by simp; omega)).trans c71
  have k50 := cellAt g5' 0
  have k51 := cellAt g5' 1
  simp only [List.getElem?_toArray, List.getElem?_cons_zero, List.getElem?_cons_succ] at k50 k51
  have hBd : Below w.heap.size w wd := hB.trans ⟨hK'.os, hK'.tape, hK'.output, hK'.size, fun k hk => hK'.block k (show k < wc.heap.size by omega) (by simp; omega)⟩
  clear hK' m56 g5' c50 c51 c60 c61 c70 c71 z50 z51 hc hz G5 M5
  have p1 := nxt_gt hN hay (by omega)
  have p2 := nxt_gt hN hby (by omega)
  clear hN
  go_wp2
  rw [rounds_succ]
  go_wp2_with (simp only [Bool.true_eq_false])
  all_goals
    refine bodyPost_ret (v := .agg #[.bool false, .bool false]) (by simp [results, Tryz.results31, go_sem, hcd]) rfl ⟨rfl, ?_⟩
    exact (hBd.setCell (by simp; omega) _).setCell (by simp; omega) _

set_option maxRecDepth 100000 in
set_option maxHeartbeats 1000000 in
theorem ray_down_top_gt {ax ay bx bY px py : Nat} {Ax Ay Bx By Px Py : Int} (hax : Rep ax Ax) (hay : Rep ay Ay) (hbx : Rep bx Bx) (hby : Rep bY By) (hpx : Rep px Px) (hpy : Rep py Py) (h1 : By < Ay) (h2 : Bx < Ax) (h3 : Py = Ay) (hcr : (Px - Ax) * (By - Ay) ≠ (Py - Ay) * (Bx - Ax)) (b1 : -16384 ≤ Ax ∧ Ax ≤ 16384 ∧ -16384 ≤ Ay ∧ Ay ≤ 16384 ∧ -16384 ≤ Bx ∧ Bx ≤ 16384 ∧ -16384 ≤ By ∧ By ≤ 16384 ∧ -16384 ≤ Px ∧ Px ≤ 16384 ∧ -16384 ≤ Py ∧ Py ≤ 16384) (w : World) :
    Calls Tryz.prog 31 #[.agg #[fl ax, fl ay, fl bx, fl bY], .agg #[fl px, fl py]] w fun e w' => e = .returned (.agg #[.bool false, .bool false]) ∧ Below w.heap.size w w' := by
  have o1 := oR hpx hax
  have o2 := oR hpx hbx
  have o3 := oR hpy hay
  have o4 := oR hpy hby
  have o5 := oR hay hby
  have o6 := oR hax hbx
  obtain ⟨d1, e1, r1⟩ := sub_rep hpx hax (by omega)
  obtain ⟨d2, e2, r2⟩ := sub_rep hbx hax (by omega)
  obtain ⟨d3, e3, r3⟩ := sub_rep hpy hay (by omega)
  obtain ⟨d4, e4, r4⟩ := sub_rep hby hay (by omega)
  have s1 := runSub (P := Tryz.prog) e1
  have s2 := runSub (P := Tryz.prog) e2
  have s3 := runSub (P := Tryz.prog) e3
  have s4 := runSub (P := Tryz.prog) e4
  obtain ⟨k1, f1, t1⟩ := div_rep r1 r2 (by omega)
  obtain ⟨k2, f2, t2⟩ := div_rep r3 r4 (by omega)
  have q1 := runQuo (P := Tryz.prog) f1
  have q2 := runQuo (P := Tryz.prog) f2
  have hq := quo_ne t1 t2 (by omega) (by omega) (by omega) (by omega) (by omega) (by omega) hcr
  clear t1 t2 r1 r2 r3 r4 e1 e2 e3 e4 f1 f2 hcr
  go_enter Tryz.func31, Tryz.ntmps31
  go_wp2
  refine wp_region_K [] [.val (.agg #[fl px, fl py]), .val (.pointer (some ⟨w.heap.size, 0, none⟩)), .val (.agg #[fl ax, fl ay]), .val (.pointer (some ⟨w.heap.size, 2, none⟩)), .val (.agg #[fl bx, fl bY]),
      .made 64 2, .made 64 2, .made 64 2, .filled 5 #[fl px, fl py] 64, .filled 6 #[fl ax, fl ay] 64, .filled 7 #[fl bx, fl bY] 64]
    [[.ini 3], [.ini 2], [.frm 1 9], [.ini 2], [.frm 3 11], [], [], [], [.frm 5 5, .frm 0 8], [.frm 6 6, .frm 2 10], [.frm 7 7, .frm 4 12]]
    mixed (by kernel_rfl) (by kernel_rfl) (by simp [Ent.val, Ent.made, Ent.filledP]) ⟨OpOk.quiet rfl ?_, OpOk.quiet rfl ?_, OpOk.quiet rfl ?_, OpOk.quiet rfl ?_, OpOk.quiet rfl ?_, OpOk.made (cs := #[fl 0, fl 0]) rfl rfl ?_, OpOk.made (cs := #[fl 0, fl 0]) rfl rfl ?_, OpOk.made (cs := #[fl 0, fl 0]) rfl rfl ?_,
      OpOk.fillRow (k := 5) rfl rfl (by kernel_rfl) rfl ?_ (by kernel_rfl) (by simp [Value.oneCell']) ?_ ?_, OpOk.fillRow (k := 6) rfl rfl (by kernel_rfl) rfl ?_ (by kernel_rfl) (by simp [Value.oneCell']) ?_ ?_, OpOk.fillRow (k := 7) rfl rfl (by kernel_rfl) rfl ?_ (by kernel_rfl) (by simp [Value.oneCell']) ?_ ?_, trivial⟩ ?_
  all_goals first
    | (intro a u hG hf
       simp [facts, Need.fact, Ent.val, Act.eval] at hf
       have hc := fun (b o : Nat) (h : b < w.heap.size + 3) => hG.cell (p := ⟨b, o, none⟩) (by simpa using h) (by simp)
       go_simp
       done)
    | (simp [Ent.val, Ent.made, Ent.filledP]; done)
    | exact fun a w hf => ⟨hf.1, hf.2.1.elim fun _ h => h.elim fun _ h => h⟩
    | exact fun w b cs h hb => Keep.setRow h (.inl hb)
    | skip
  intro u l h wc hK hE hI hD
  simp [allE, allPut, Act.put, Act.eval, Ent.val, Ent.made, Ent.filledP] at hE
  obtain ⟨u0, u1, u2, u3, u4, ⟨b5, u5, l5, h5, -⟩, ⟨b6, u6, l6, h6, -⟩, ⟨b7, u7, l7, h7, -⟩, ⟨b5', v5, g5⟩, ⟨b6', v6, g6⟩, ⟨b7', v7, g7⟩⟩ := hE
  obtain rfl : b5 = b5' := by rw [u5] at v5; simpa using v5
  obtain rfl : b6 = b6' := by rw [u6] at v6; simpa using v6
  obtain rfl : b7 = b7' := by rw [u7] at v7; simpa using v7
  simp only [allPut, Act.put, u0, u1, u2, u3, u4, u5, u6, u7]
  clear v5 v6 v7 u0 u1 u2 u3 u4 u5 u6 u7
  have i5 := hI 5 (by simp)
  have i6 := hI 6 (by simp)
  have i7 := hI 7 (by simp)
  have d56 := hD 5 6 (by simp) (by simp) (by omega)
  have d57 := hD 5 7 (by simp) (by simp) (by omega)
  simp at i5 i6 i7
  have hc := fun (b o : Nat) (h : b < w.heap.size + 3) => hK.cell (p := ⟨b, o, none⟩) (by simpa using h) (by simp)
  have hz := fun (b o : Nat) (h : b < w.heap.size + 3) => hK.frozen (p := ⟨b, o, none⟩) (by simpa using h) (by simp)
  have c50 := cellAt g5 0
  have c51 := cellAt g5 1
  have c60 := cellAt g6 0
  have c61 := cellAt g6 1
  have c70 := cellAt g7 0
  have c71 := cellAt g7 1
  simp only [List.getElem?_toArray, List.getElem?_cons_zero, List.getElem?_cons_succ] at c50 c51 c60 c61 c70 c71
  have z50 := frozenAt g5 0
  have z51 := frozenAt g5 1
  have n5 : (w.heap.size + 2 = b5) = False := by simp; omega
  have n6 : (w.heap.size + 2 = b6) = False := by simp; omega
  have n7 : (w.heap.size + 2 = b7) = False := by simp; omega
  have n5' : (b5 = w.heap.size + 2) = False := by simp; omega
  have n6' : (b6 = w.heap.size + 2) = False := by simp; omega
  have n7' : (b7 = w.heap.size + 2) = False := by simp; omega
  have n56 : (b5 = b6) = False := by simp; omega
  have n65 : (b6 = b5) = False := by simp; omega
  have n57 : (b5 = b7) = False := by simp; omega
  have n75 : (b7 = b5) = False := by simp; omega
  have hB : Below w.heap.size w wc := (((Below.refl _ _).alloc (Nat.le_refl _) _).alloc (by simp) _ |>.alloc (by simp; omega) _).trans (hK.below.mono (by simp; omega))
  have hsz : w.heap.size + 3 ≤ wc.heap.size := by simpa using hK.size
  have m5 : w.heap.size ≤ b5 := by omega
  have G5 : Hid (wc.heap[b5]? = some (.cells #[fl px, fl py] 64 (0, 0))) := g5
  have M5 : Hid (b5 < wc.heap.size ∧ b6 < wc.heap.size ∧ b7 < wc.heap.size ∧ w.heap.size + 3 ≤ b5 ∧ b6 ≠ b5 ∧ b7 ≠ b5) := ⟨by omega, by omega, by omega, by omega, by omega, by omega⟩
  clear hK hI hD g5 g6 g7 d56 d57 i5 i6 i7 l5 h5 l6 h6 l7 h7
  go_wp2_with (simp only [s1, s2, s3, s4, q1, q2])
  refine wp_loop_rounds 2 ?_
  rw [rounds_succ]
  go_wp2_with fail
  refine wp_region_K [b5] [.val (.pointer (some ⟨b5, 1, none⟩)), .val (fl py), .val (fl 9218868437227405312), .of (fun v => ∃ x', v = fl x' ∧ Nxt x' Py), .val (.pointer (some ⟨b5, 1, none⟩)),
      .turn b5 #[fl px, fl py] (fun cs => ∃ x', cs = #[fl px, fl x'] ∧ Nxt x' Py) 64]
    [[.ini 5], [.frm 0 183, .til 5], [], [.frm 1 184, .frm 2 185], [.ini 5], [.frm 4 187, .frm 3 186, .til 5]]
    mixed (by kernel_rfl) (by kernel_rfl) (by simp [Ent.val, Ent.of, Ent.turn]; exact G5.out) ⟨OpOk.quiet rfl ?_, OpOk.quiet rfl ?_, OpOk.call rfl ?_, OpOk.call rfl ?_, OpOk.quiet rfl ?_, OpOk.turn rfl ?_ (by kernel_rfl) ?_ ?_ ?_, trivial⟩ ?_
  · intro a u hG hf
    simp [facts, Need.fact, Ent.val, Act.eval] at hf
    go_simp
  · intro a u hG hf
    have hf2 : u.heap[b5]? = some (.cells #[fl px, fl py] 64 (0, 0)) := hf.2.1
    have hc5 := cellAt hf2 1
    simp only [List.getElem?_toArray, List.getElem?_cons_zero, List.getElem?_cons_succ] at hc5
    simp [facts, Need.fact, Ent.val, Ent.turn, Act.eval] at hf
    go_simp
  · intro a u hG hf
    refine ⟨_, _, by go_simp, (inf_c _).mono ?_⟩
    rintro e w' ⟨rfl, rfl⟩
    exact ⟨_, rfl, Ext.refl _, rfl⟩
  · intro a u hG hf
    simp [facts, Need.fact, Ent.val, Act.eval] at hf
    refine ⟨_, _, by go_simp, (nextafter_c hpy (by omega) _).mono ?_⟩
    rintro e w' ⟨x', rfl, hN, rfl⟩
    exact ⟨_, rfl, Ext.refl _, x', rfl, hN⟩
  · intro a u hG hf
    simp [facts, Need.fact, Ent.val, Act.eval] at hf
    go_simp
  · exact M5.out.1
  · intro j e he hj
    match j, he, hj with
    | 0, he, _ => simp at he; subst he; simp [Ent.val]
    | 1, he, _ => simp at he; subst he; simp [Ent.val]
    | 2, he, _ => simp at he; subst he; simp [Ent.val]
    | 3, he, _ => simp at he; subst he; simp [Ent.of]
    | 4, he, _ => simp at he; subst he; simp [Ent.val]
    | 5, _, hj => exact absurd rfl hj
    | j + 6, he, _ => simp at he
  · intro a u hG hf
    obtain ⟨⟨_, _, f1⟩, ⟨_, _, x', f2, hN⟩, f3, _⟩ := hf
    have f1 : a.eval (.tmp 187) = .pointer (some ⟨b5, 1, none⟩) := f1
    have f2 : a.eval (.tmp 186) = fl x' := f2
    have f3 : u.heap[b5]? = some (.cells #[fl px, fl py] 64 (0, 0)) := f3
    exact ⟨_, _, _, f3, run_store_cell 53 (.tmp 187) (.tmp 186) rfl b5 1 (fl x') f1 f2 64 _ f3 (by kernel_rfl) (by simp) rfl, .inl rfl, x', rfl, hN⟩
  · exact fun u cs h => Keep.setRow h (.inr (by simp))
  intro u' l' h' wd hK' hE' hI' hD'
  simp [allE, allPut, Act.put, Act.eval, Ent.val, Ent.of, Ent.turn] at hE'
  obtain ⟨v0, v1, v2, ⟨x0, v3, -⟩, v4, cs', ⟨x', rfl, hN⟩, g5'⟩ := hE'
  simp only [allPut, Act.put, v0, v1, v2, v3, v4]
  clear v0 v1 v2 v3 v4 hI' hD'
  have m56 := M5.out
  have hcd := fun (b o : Nat) (h : b < w.heap.size + 3) => (hK'.cell (p := ⟨b, o, none⟩) (show b < wc.heap.size by omega) (show b ∉ [b5] by simp; omega)).trans (hc b o h)
  have hzd := fun (b o : Nat) (h : b < w.heap.size + 3) => (hK'.frozen (p := ⟨b, o, none⟩) (show b < wc.heap.size by omega) (show b ∉ [b5] by simp; omega)).trans (hz b o h)
  have k60 : wd.cell? ⟨b6, 0, none⟩ = some (fl ax) := (hK'.cell (p := ⟨b6, 0, none⟩) m56.2.1 (by simp; omega)).trans c60
  have k61 : wd.cell? ⟨b6, 1, none⟩ = some (fl ay) := (hK'.cell (p := ⟨b6, 1, none⟩) m56.2.1 (by simp; omega)).trans c61
  have k70 : wd.cell? ⟨b7, 0, none⟩ = some (fl bx) := (hK'.cell (p := ⟨b7, 0, none⟩) m56.2.2.1 (by simp; omega)).trans c70
  have k71 : wd.cell? ⟨b7, 1, none⟩ = some (fl bY) := (hK'.cell (p := ⟨b7, 1, none⟩) m56.2.2.1 (by simp; omega)).trans c71
  have k50 := cellAt g5' 0
  have k51 := cellAt g5' 1
  simp only [List.getElem?_toArray, List.getElem?_cons_zero, List.getElem?_cons_succ] at k50 k51
  have hBd : Below w.heap.size w wd := hB.trans ⟨hK'.os, hK'.tape, hK'.output, hK'.size, fun k hk => hK'.block k (show k < wc.heap.size by omega) (by simp; omega)⟩
  clear hK' m56 g5' c50 c51 c60 c61 c70 c71 z50 z51 hc hz G5 M5
  have p1 := nxt_gt hN hay (by omega)
  have p2 := nxt_gt hN hby (by omega)
  clear hN
  go_wp2
  rw [rounds_succ]
  go_wp2_with (simp only [Bool.true_eq_false])
  all_goals
    refine bodyPost_ret (v := .agg #[.bool false, .bool false]) (by simp [results, Tryz.results31, go_sem, hcd]) rfl ⟨rfl, ?_⟩
    exact (hBd.setCell (by simp; omega) _).setCell (by simp; omega) _

set_option maxRecDepth 100000 in
set_option maxHeartbeats 1000000 in
theorem ray_down_low_eq_l {ax ay bx bY px py : Nat} {Ax Ay Bx By Px Py : Int} (hax : Rep ax Ax) (hay : Rep ay Ay) (hbx : Rep bx Bx) (hby : Rep bY By) (hpx : Rep px Px) (hpy : Rep py Py) (h1 : By < Ay) (h2 : Ax = Bx) (h3 : Py = By) (hx : Px < Ax) (b1 : -16384 ≤ Ax ∧ Ax ≤ 16384 ∧ -16384 ≤ Ay ∧ Ay ≤ 16384 ∧ -16384 ≤ Bx ∧ Bx ≤ 16384 ∧ -16384 ≤ By ∧ By ≤ 16384 ∧ -16384 ≤ Px ∧ Px ≤ 16384 ∧ -16384 ≤ Py ∧ Py ≤ 16384) (w : World) :
    Calls Tryz.prog 31 #[.agg #[fl ax, fl ay, fl bx, fl bY], .agg #[fl px, fl py]] w fun e w' => e = .returned (.agg #[.bool true, .bool false]) ∧ Below w.heap.size w w' := by
  have o1 := oR hpx hax
  have o2 := oR hpx hbx
  have o3 := oR hpy hay
  have o4 := oR hpy hby
  have o5 := oR hay hby
  have o6 := oR hax hbx
  obtain ⟨d1, e1, r1⟩ := sub_rep hpx hax (by omega)
  obtain ⟨d2, e2, r2⟩ := sub_rep hbx hax (by omega)
  obtain ⟨d3, e3, r3⟩ := sub_rep hpy hay (by omega)
  obtain ⟨d4, e4, r4⟩ := sub_rep hby hay (by omega)
  have s1 := runSub (P := Tryz.prog) e1
  have s2 := runSub (P := Tryz.prog) e2
  have s3 := runSub (P := Tryz.prog) e3
  have s4 := runSub (P := Tryz.prog) e4
  obtain ⟨k2, f2, t2⟩ := div_rep r3 r4 (by omega)
  have f1 := div_zero r1 (by rw [h2] at r2; simpa using r2) (by omega)
  have q1 := runQuo (P := Tryz.prog) f1
  have q2 := runQuo (P := Tryz.prog) f2
  have oq := order_inf_left (s := (d1 / 9223372036854775808 % 2 == 1 ^^ d2 / 9223372036854775808 % 2 == 1)) (quo_fin t2 (by omega) (by omega))
  generalize Ieee.double.word (d1 / 9223372036854775808 % 2 == 1 ^^ d2 / 9223372036854775808 % 2 == 1) 9218868437227405312 = k1 at *
  have hq : (FloatKind.f64.format.order k1 k2 == some .eq) = false := by
    have : FloatKind.f64.format.order k1 k2 = _ := oq
    rw [this]
    cases (d1 / 9223372036854775808 % 2 == 1 ^^ d2 / 9223372036854775808 % 2 == 1) <;> rfl
  clear oq
  clear t2 r1 r2 r3 r4 e1 e2 e3 e4 f1 f2
  go_enter Tryz.func31, Tryz.ntmps31
  go_wp2
  refine wp_region_K [] [.val (.agg #[fl px, fl py]), .val (.pointer (some ⟨w.heap.size, 0, none⟩)), .val (.agg #[fl ax, fl ay]), .val (.pointer (some ⟨w.heap.size, 2, none⟩)), .val (.agg #[fl bx, fl bY]),
      .made 64 2, .made 64 2, .made 64 2, .filled 5 #[fl px, fl py] 64, .filled 6 #[fl ax, fl ay] 64, .filled 7 #[fl bx, fl bY] 64]
    [[.ini 3], [.ini 2], [.frm 1 9], [.ini 2], [.frm 3 11], [], [], [], [.frm 5 5, .frm 0 8], [.frm 6 6, .frm 2 10], [.frm 7 7, .frm 4 12]]
    mixed (by kernel_rfl) (by kernel_rfl) (by simp [Ent.val, Ent.made, Ent.filledP]) ⟨OpOk.quiet rfl ?_, OpOk.quiet rfl ?_, OpOk.quiet rfl ?_, OpOk.quiet rfl ?_, OpOk.quiet rfl ?_, OpOk.made (cs := #[fl 0, fl 0]) rfl rfl ?_, OpOk.made (cs := #[fl 0, fl 0]) rfl rfl ?_, OpOk.made (cs := #[fl 0, fl 0]) rfl rfl ?_,
      OpOk.fillRow (k := 5) rfl rfl (by kernel_rfl) rfl ?_ (by kernel_rfl) (by simp [Value.oneCell']) ?_ ?_, OpOk.fillRow (k := 6) rfl rfl (by kernel_rfl) rfl ?_ (by kernel_rfl) (by simp [Value.oneCell']) ?_ ?_, OpOk.fillRow (k := 7) rfl rfl (by kernel_rfl) rfl ?_ (by kernel_rfl) (by simp [Value.oneCell']) ?_ ?_, trivial⟩ ?_
  all_goals first
    | (intro a u hG hf
       simp [facts, Need.fact, Ent.val, Act.eval] at hf
       have hc := fun (b o : Nat) (h : b < w.heap.size + 3) => hG.cell (p := ⟨b, o, none⟩) (by simpa using h) (by simp)
       go_simp
       done)
    | (simp [Ent.val, Ent.made, Ent.filledP]; done)
    | exact fun a w hf => ⟨hf.1, hf.2.1.elim fun _ h => h.elim fun _ h => h⟩
    | exact fun w b cs h hb => Keep.setRow h (.inl hb)
    | skip
  intro u l h wc hK hE hI hD
  simp [allE, allPut, Act.put, Act.eval, Ent.val, Ent.made, Ent.filledP] at hE
  obtain ⟨u0, u1, u2, u3, u4, ⟨b5, u5, l5, h5, -⟩, ⟨b6, u6, l6, h6, -⟩, ⟨b7, u7, l7, h7, -⟩, ⟨b5', v5, g5⟩, ⟨b6', v6, g6⟩, ⟨b7', v7, g7⟩⟩ := hE
  obtain rfl : b5 = b5' := by rw [u5] at v5; simpa using v5
  obtain rfl : b6 = b6' := by rw [u6] at v6; simpa using v6
  obtain rfl : b7 = b7' := by rw [u7] at v7; simpa using v7
  simp only [allPut, Act.put, u0, u1, u2, u3, u4, u5, u6, u7]
  clear v5 v6 v7 u0 u1 u2 u3 u4 u5 u6 u7
  have i5 := hI 5 (by simp)
  have i6 := hI 6 (by simp)
  have i7 := hI 7 (by simp)
  have d56 := hD 5 6 (by simp) (by simp) (by omega)
  have d57 := hD 5 7 (by simp) (by simp) (by omega)
  simp at i5 i6 i7
  have hc := fun (b o : Nat) (h : b < w.heap.size + 3) => hK.cell (p := ⟨b, o, none⟩) (by simpa using h) (by simp)
  have hz := fun (b o : Nat) (h : b < w.heap.size + 3) => hK.frozen (p := ⟨b, o, none⟩) (by simpa using h) (by simp)
  have c50 := cellAt g5 0
  have c51 := cellAt g5 1
  have c60 := cellAt g6 0
  have c61 := cellAt g6 1
  have c70 := cellAt g7 0
  have c71 := cellAt g7 1
  simp only [List.getElem?_toArray, List.getElem?_cons_zero, List.getElem?_cons_succ] at c50 c51 c60 c61 c70 c71
  have z50 := frozenAt g5 0
  have z51 := frozenAt g5 1
  have n5 : (w.heap.size + 2 = b5) = False := by simp; omega
  have n6 : (w.heap.size + 2 = b6) = False := by simp; omega
  have n7 : (w.heap.size + 2 = b7) = False := by simp; omega
  have n5' : (b5 = w.heap.size + 2) = False := by simp; omega
  have n6' : (b6 = w.heap.size + 2) = False := by simp; omega
  have n7' : (b7 = w.heap.size + 2) = False := by simp; omega
  have n56 : (b5 = b6) = False := by simp; omega
  have n65 : (b6 = b5) = False := by simp; omega
  have n57 : (b5 = b7) = False := by simp; omega
  have n75 : (b7 = b5) = False := by simp; omega
  have hB : Below w.heap.size w wc := (((Below.refl _ _).alloc (Nat.le_refl _) _).alloc (by simp) _ |>.alloc (by simp; omega) _).trans (hK.below.mono (by simp; omega))
  have hsz : w.heap.size + 3 ≤ wc.heap.size := by simpa using hK.size
  have m5 : w.heap.size ≤ b5 := by omega
  have G5 : Hid (wc.heap[b5]? = some (.cells #[fl px, fl py] 64 (0, 0))) := g5
  have M5 : Hid (b5 < wc.heap.size ∧ b6 < wc.heap.size ∧ b7 < wc.heap.size ∧ w.heap.size + 3 ≤ b5 ∧ b6 ≠ b5 ∧ b7 ≠ b5) := ⟨by omega, by omega, by omega, by omega, by omega, by omega⟩
  clear hK hI hD g5 g6 g7 d56 d57 i5 i6 i7 l5 h5 l6 h6 l7 h7
  go_wp2_with (simp only [s1, s2, s3, s4, q1, q2])
  refine wp_loop_rounds 2 ?_
  rw [rounds_succ]
  go_wp2_with fail
  refine wp_region_K [b5] [.val (.pointer (some ⟨b5, 1, none⟩)), .val (fl py), .val (fl 9218868437227405312), .of (fun v => ∃ x', v = fl x' ∧ Nxt x' Py), .val (.pointer (some ⟨b5, 1, none⟩)),
      .turn b5 #[fl px, fl py] (fun cs => ∃ x', cs = #[fl px, fl x'] ∧ Nxt x' Py) 64]
    [[.ini 5], [.frm 0 183, .til 5], [], [.frm 1 184, .frm 2 185], [.ini 5], [.frm 4 187, .frm 3 186, .til 5]]
    mixed (by kernel_rfl) (by kernel_rfl) (by simp [Ent.val, Ent.of, Ent.turn]; exact G5.out) ⟨OpOk.quiet rfl ?_, OpOk.quiet rfl ?_, OpOk.call rfl ?_, OpOk.call rfl ?_, OpOk.quiet rfl ?_, OpOk.turn rfl ?_ (by kernel_rfl) ?_ ?_ ?_, trivial⟩ ?_
  · intro a u hG hf
    simp [facts, Need.fact, Ent.val, Act.eval] at hf
    go_simp
  · intro a u hG hf
    have hf2 : u.heap[b5]? = some (.cells #[fl px, fl py] 64 (0, 0)) := hf.2.1
    have hc5 := cellAt hf2 1
    simp only [List.getElem?_toArray, List.getElem?_cons_zero, List.getElem?_cons_succ] at hc5
    simp [facts, Need.fact, Ent.val, Ent.turn, Act.eval] at hf
    go_simp
  · intro a u hG hf
    refine ⟨_, _, by go_simp, (inf_c _).mono ?_⟩
    rintro e w' ⟨rfl, rfl⟩
    exact ⟨_, rfl, Ext.refl _, rfl⟩
  · intro a u hG hf
    simp [facts, Need.fact, Ent.val, Act.eval] at hf
    refine ⟨_, _, by go_simp, (nextafter_c hpy (by omega) _).mono ?_⟩
    rintro e w' ⟨x', rfl, hN, rfl⟩
    exact ⟨_, rfl, Ext.refl _, x', rfl, hN⟩
  · intro a u hG hf
    simp [facts, Need.fact, Ent.val, Act.eval] at hf
    go_simp
  · exact M5.out.1
  · intro j e he hj
    match j, he, hj with
    | 0, he, _ => simp at he; subst he; simp [Ent.val]
    | 1, he, _ => simp at he; subst he; simp [Ent.val]
    | 2, he, _ => simp at he; subst he; simp [Ent.val]
    | 3, he, _ => simp at he; subst he; simp [Ent.of]
    | 4, he, _ => simp at he; subst he; simp [Ent.val]
    | 5, _, hj => exact absurd rfl hj
    | j + 6, he, _ => simp at he
  · intro a u hG hf
    obtain ⟨⟨_, _, f1⟩, ⟨_, _, x', f2, hN⟩, f3, _⟩ := hf
    have f1 : a.eval (.tmp 187) = .pointer (some ⟨b5, 1, none⟩) := f1
    have f2 : a.eval (.tmp 186) = fl x' := f2
    have f3 : u.heap[b5]? = some (.cells #[fl px, fl py] 64 (0, 0)) := f3
    exact ⟨_, _, _, f3, run_store_cell 53 (.tmp 187) (.tmp 186) rfl b5 1 (fl x') f1 f2 64 _ f3 (by kernel_rfl) (by simp) rfl, .inl rfl, x', rfl, hN⟩
  · exact fun u cs h => Keep.setRow h (.inr (by simp))
  intro u' l' h' wd hK' hE' hI' hD'
  simp [allE, allPut, Act.put, Act.eval, Ent.val, Ent.of, Ent.turn] at hE'
  obtain ⟨v0, v1, v2, ⟨x0, v3, -⟩, v4, cs', ⟨x', rfl, hN⟩, g5'⟩ := hE'
  simp only [allPut, Act.put, v0, v1, v2, v3, v4]
  clear v0 v1 v2 v3 v4 hI' hD'
  have m56 := M5.out
  have hcd := fun (b o : Nat) (h : b < w.heap.size + 3) => (hK'.cell (p := ⟨b, o, none⟩) (show b < wc.heap.size by omega) (show b ∉ [b5] by simp; omega)).trans (hc b o h)
  have hzd := fun (b o : Nat) (h : b < w.heap.size + 3) => (hK'.frozen (p := ⟨b, o, none⟩) (show b < wc.heap.size by omega) (show b ∉ [b5] by simp; omega)).trans (hz b o h)
  have k60 : wd.cell? ⟨b6, 0, none⟩ = some (fl ax) := (hK'.cell (p := ⟨b6, 0, none⟩) m56.2.1 (by simp; omega)).trans c60
  have k61 : wd.cell? ⟨b6, 1, none⟩ = some (fl ay) := (hK'.cell (p := ⟨b6, 1, none⟩) m56.2.1 (by simp; omega)).trans c61
  have k70 : wd.cell? ⟨b7, 0, none⟩ = some (fl bx) := (hK'.cell (p := ⟨b7, 0, none⟩) m56.2.2.1 (by simp; omega)).trans c70
  have k71 : wd.cell? ⟨b7, 1, none⟩ = some (fl bY) := (hK'.cell (p := ⟨b7, 1, none⟩) m56.2.2.1 (by simp; omega)).trans c71
  have k50 := cellAt g5' 0
  have k51 := cellAt g5' 1
  simp only [List.getElem?_toArray, List.getElem?_cons_zero, List.getElem?_cons_succ] at k50 k51
  have hBd : Below w.heap.size w wd := hB.trans ⟨hK'.os, hK'.tape, hK'.output, hK'.size, fun k hk => hK'.block k (show k < wc.heap.size by omega) (by simp; omega)⟩
  clear hK' m56 g5' c50 c51 c60 c61 c70 c71 z50 z51 hc hz G5 M5
  have p1 := nxt_gt hN hby (by omega)
  have p2 := nxt_lt hN hay (by omega)
  clear hN
  go_wp2
  rw [rounds_succ]
  go_wp2_with (simp only [Bool.true_eq_false])
  all_goals
    refine bodyPost_ret (v := .agg #[.bool true, .bool false]) (by simp [results, Tryz.results31, go_sem, hcd]) rfl ⟨rfl, ?_⟩
    exact (hBd.setCell (by simp; omega) _).setCell (by simp; omega) _

set_option maxRecDepth 100000 in
set_option maxHeartbeats 1000000 in
theorem ray_down_low_eq_r {ax ay bx bY px py : Nat} {Ax Ay Bx By Px Py : Int} (hax : Rep ax Ax) (hay : Rep ay Ay) (hbx : Rep bx Bx) (hby : Rep bY By) (hpx : Rep px Px) (hpy : Rep py Py) (h1 : By < Ay) (h2 : Ax = Bx) (h3 : Py = By) (hx : Ax < Px) (b1 : -16384 ≤ Ax ∧ Ax ≤ 16384 ∧ -16384 ≤ Ay ∧ Ay ≤ 16384 ∧ -16384 ≤ Bx ∧ Bx ≤ 16384 ∧ -16384 ≤ By ∧ By ≤ 16384 ∧ -16384 ≤ Px ∧ Px ≤ 16384 ∧ -16384 ≤ Py ∧ Py ≤ 16384) (w : World) :
    Calls Tryz.prog 31 #[.agg #[fl ax, fl ay, fl bx, fl bY], .agg #[fl px, fl py]] w fun e w' => e = .returned (.agg #[.bool false, .bool false]) ∧ Below w.heap.size w w' := by
  have o1 := oR hpx hax
  have o2 := oR hpx hbx
  have o3 := oR hpy hay
  have o4 := oR hpy hby
  have o5 := oR hay hby
  have o6 := oR hax hbx
  obtain ⟨d1, e1, r1⟩ := sub_rep hpx hax (by omega)
  obtain ⟨d2, e2, r2⟩ := sub_rep hbx hax (by omega)
  obtain ⟨d3, e3, r3⟩ := sub_rep hpy hay (by omega)
  obtain ⟨d4, e4, r4⟩ := sub_rep hby hay (by omega)
  have s1 := runSub (P := Tryz.prog) e1
  have s2 := runSub (P := Tryz.prog) e2
  have s3 := runSub (P := Tryz.prog) e3
  have s4 := runSub (P := Tryz.prog) e4
  obtain ⟨k2, f2, t2⟩ := div_rep r3 r4 (by omega)
  have f1 := div_zero r1 (by rw [h2] at r2; simpa using r2) (by omega)
  have q1 := runQuo (P := Tryz.prog) f1
  have q2 := runQuo (P := Tryz.prog) f2
  have oq := order_inf_left (s := (d1 / 9223372036854775808 % 2 == 1 ^^ d2 / 9223372036854775808 % 2 == 1)) (quo_fin t2 (by omega) (by omega))
  generalize Ieee.double.word (d1 / 9223372036854775808 % 2 == 1 ^^ d2 / 9223372036854775808 % 2 == 1) 9218868437227405312 = k1 at *
  have hq : (FloatKind.f64.format.order k1 k2 == some .eq) = false := by
    have : FloatKind.f64.format.order k1 k2 = _ := oq
    rw [this]
    cases (d1 / 9223372036854775808 % 2 == 1 ^^ d2 / 9223372036854775808 % 2 == 1) <;> rfl
  clear oq
  clear t2 r1 r2 r3 r4 e1 e2 e3 e4 f1 f2
  go_enter Tryz.func31, Tryz.ntmps31
  go_wp2
  refine wp_region_K [] [.val (.agg #[fl px, fl py]), .val (.pointer (some ⟨w.heap.size, 0, none⟩)), .val (.agg #[fl ax, fl ay]), .val (.pointer (some ⟨w.heap.size, 2, none⟩)), .val (.agg #[fl bx, fl bY]),
      .made 64 2, .made 64 2, .made 64 2, .filled 5 #[fl px, fl py] 64, .filled 6 #[fl ax, fl ay] 64, .filled 7 #[fl bx, fl bY] 64]
    [[.ini 3], [.ini 2], [.frm 1 9], [.ini 2], [.frm 3 11], [], [], [], [.frm 5 5, .frm 0 8], [.frm 6 6, .frm 2 10], [.frm 7 7, .frm 4 12]]
    mixed (by kernel_rfl) (by kernel_rfl) (by simp [Ent.val, Ent.made, Ent.filledP]) ⟨OpOk.quiet rfl ?_, OpOk.quiet rfl ?_, OpOk.quiet rfl ?_, OpOk.quiet rfl ?_, OpOk.quiet rfl ?_, OpOk.made (cs := #[fl 0, fl 0]) rfl rfl ?_, OpOk.made (cs := #[fl 0, fl 0]) rfl rfl ?_, OpOk.made (cs := #[fl 0, fl 0]) rfl rfl ?_,
      OpOk.fillRow (k := 5) rfl rfl (by kernel_rfl) rfl ?_ (by kernel_rfl) (by simp [Value.oneCell']) ?_ ?_, OpOk.fillRow (k := 6) rfl rfl (by kernel_rfl) rfl ?_ (by kernel_rfl) (by simp [Value.oneCell']) ?_ ?_, OpOk.fillRow (k := 7) rfl rfl (by kernel_rfl) rfl ?_ (by kernel_rfl) (by simp [Value.oneCell']) ?_ ?_, trivial⟩ ?_
  all_goals first
    | (intro a u hG hf
       simp [facts, Need.fact, Ent.val, Act.eval] at hf
       have hc := fun (b o : Nat) (h : b < w.heap.size + 3) => hG.cell (p := ⟨b, o, none⟩) (by simpa using h) (by simp)
       go_simp
       done)
    | (simp [Ent.val, Ent.made, Ent.filledP]; done)
    | exact fun a w hf => ⟨hf.1, hf.2.1.elim fun _ h => h.elim fun _ h => h⟩
    | exact fun w b cs h hb => Keep.setRow h (.inl hb)
    | skip
  intro u l h wc hK hE hI hD
  simp [allE, allPut, Act.put, Act.eval, Ent.val, Ent.made, Ent.filledP] at hE
  obtain ⟨u0, u1, u2, u3, u4, ⟨b5, u5, l5, h5, -⟩, ⟨b6, u6, l6, h6, -⟩, ⟨b7, u7, l7, h7, -⟩, ⟨b5', v5, g5⟩, ⟨b6', v6, g6⟩, ⟨b7', v7, g7⟩⟩ := hE
  obtain rfl : b5 = b5' := by rw [u5] at v5; simpa using v5
  obtain rfl : b6 = b6' := by rw [u6] at v6; simpa using v6
  obtain rfl : b7 = b7' := by rw [u7] at v7; simpa using v7
  simp only [allPut, Act.put, u0, u1, u2, u3, u4, u5, u6, u7]
  clear v5 v6 v7 u0 u1 u2 u3 u4 u5 u6 u7
  have i5 := hI 5 (by simp)
  have i6 := hI 6 (by simp)
  have i7 := hI 7 (by simp)
  have d56 := hD 5 6 (by simp) (by simp) (by omega)
  have d57 := hD 5 7 (by simp) (by simp) (by omega)
  simp at i5 i6 i7
  have hc := fun (b o : Nat) (h : b < w.heap.size + 3) => hK.cell (p := ⟨b, o, none⟩) (by simpa using h) (by simp)
  have hz := fun (b o : Nat) (h : b < w.heap.size + 3) => hK.frozen (p := ⟨b, o, none⟩) (by simpa using h) (by simp)
  have c50 := cellAt g5 0
  have c51 := cellAt g5 1
  have c60 := cellAt g6 0
  have c61 := cellAt g6 1
  have c70 := cellAt g7 0
  have c71 := cellAt g7 1
  simp only [List.getElem?_toArray, List.getElem?_cons_zero, List.getElem?_cons_succ] at c50 c51 c60 c61 c70 c71
  have z50 := frozenAt g5 0
  have z51 := frozenAt g5 1
  have n5 : (w.heap.size + 2 = b5) = False := by simp; omega
  have n6 : (w.heap.size + 2 = b6) = False := by simp; omega
  have n7 : (w.heap.size + 2 = b7) = False := by simp; omega
  have n5' : (b5 = w.heap.size + 2) = False := by simp; omega
  have n6' : (b6 = w.heap.size + 2) = False := by simp; omega
  have n7' : (b7 = w.heap.size + 2) = False := by simp; omega
  have n56 : (b5 = b6) = False := by simp; omega
  have n65 : (b6 = b5) = False := by simp; omega
  have n57 : (b5 = b7) = False := by simp; omega
  have n75 : (b7 = b5) = False := by simp; omega
  have hB : Below w.heap.size w wc := (((Below.refl _ _).alloc (Nat.le_refl _) _).alloc (by simp) _ |>.alloc (by simp; omega) _).trans (hK.below.mono (by simp; omega))
  have hsz : w.heap.size + 3 ≤ wc.heap.size := by simpa using hK.size
  have m5 : w.heap.size ≤ b5 := by omega
  have G5 : Hid (wc.heap[b5]? = some (.cells #[fl px, fl py] 64 (0, 0))) := g5
  have M5 : Hid (b5 < wc.heap.size ∧ b6 < wc.heap.size ∧ b7 < wc.heap.size ∧ w.heap.size + 3 ≤ b5 ∧ b6 ≠ b5 ∧ b7 ≠ b5) := ⟨by omega, by omega, by omega, by omega, by omega, by omega⟩
  clear hK hI hD g5 g6 g7 d56 d57 i5 i6 i7 l5 h5 l6 h6 l7 h7
  go_wp2_with (simp only [s1, s2, s3, s4, q1, q2])
  refine wp_loop_rounds 2 ?_
  rw [rounds_succ]
  go_wp2_with fail
  refine wp_region_K [b5] [.val (.pointer (some ⟨b5, 1, none⟩)), .val (fl py), .val (fl 9218868437227405312), .of (fun v => ∃ x', v = fl x' ∧ Nxt x' Py), .val (.pointer (some ⟨b5, 1, none⟩)),
      .turn b5 #[fl px, fl py] (fun cs => ∃ x', cs = #[fl px, fl x'] ∧ Nxt x' Py) 64]
    [[.ini 5], [.frm 0 183, .til 5], [], [.frm 1 184, .frm 2 185], [.ini 5], [.frm 4 187, .frm 3 186, .til 5]]
    mixed (by kernel_rfl) (by kernel_rfl) (by simp [Ent.val, Ent.of, Ent.turn]; exact G5.out) ⟨OpOk.quiet rfl ?_, OpOk.quiet rfl ?_, OpOk.call rfl ?_, OpOk.call rfl ?_, OpOk.quiet rfl ?_, OpOk.turn rfl ?_ (by kernel_rfl) ?_ ?_ ?_, trivial⟩ ?_
  · intro a u hG hf
    simp [facts, Need.fact, Ent.val, Act.eval] at hf
    go_simp
  · intro a u hG hf
    have hf2 : u.heap[b5]? = some (.cells #[fl px, fl py] 64 (0, 0)) := hf.2.1
    have hc5 := cellAt hf2 1
    simp only [List.getElem?_toArray, List.getElem?_cons_zero, List.getElem?_cons_succ] at hc5
    simp [facts, Need.fact, Ent.val, Ent.turn, Act.eval] at hf
    go_simp
  · intro a u hG hf
    refine ⟨_, _, by go_simp, (inf_c _).mono ?_⟩
    rintro e w' ⟨rfl, rfl⟩
    exact ⟨_, rfl, Ext.refl _, rfl⟩
  · intro a u hG hf
    simp [facts, Need.fact, Ent.val, Act.eval] at hf
    refine ⟨_, _, by go_simp, (nextafter_c hpy (by omega) _).mono ?_⟩
    rintro e w' ⟨x', rfl, hN, rfl⟩
    exact ⟨_, rfl, Ext.refl _, x', rfl, hN⟩
  · intro a u hG hf
    simp [facts, Need.fact, Ent.val, Act.eval] at hf
    go_simp
  · exact M5.out.1
  · intro j e he hj
    match j, he, hj with
    | 0, he, _ => simp at he; subst he; simp [Ent.val]
    | 1, he, _ => simp at he; subst he; simp [Ent.val]
    | 2, he, _ => simp at he; subst he; simp [Ent.val]
    | 3, he, _ => simp at he; subst he; simp [Ent.of]
    | 4, he, _ => simp at he; subst he; simp [Ent.val]
    | 5, _, hj => exact absurd rfl hj
    | j + 6, he, _ => simp at he
  · intro a u hG hf
    obtain ⟨⟨_, _, f1⟩, ⟨_, _, x', f2, hN⟩, f3, _⟩ := hf
    have f1 : a.eval (.tmp 187) = .pointer (some ⟨b5, 1, none⟩) := f1
    have f2 : a.eval (.tmp 186) = fl x' := f2
    have f3 : u.heap[b5]? = some (.cells #[fl px, fl py] 64 (0, 0)) := f3
    exact ⟨_, _, _, f3, run_store_cell 53 (.tmp 187) (.tmp 186) rfl b5 1 (fl x') f1 f2 64 _ f3 (by kernel_rfl) (by simp) rfl, .inl rfl, x', rfl, hN⟩
  · exact fun u cs h => Keep.setRow h (.inr (by simp))
  intro u' l' h' wd hK' hE' hI' hD'
  simp [allE, allPut, Act.put, Act.eval, Ent.val, Ent.of, Ent.turn] at hE'
  obtain ⟨v0, v1, v2, ⟨x0, v3, -⟩, v4, cs', ⟨x', rfl, hN⟩, g5'⟩ := hE'
  simp only [allPut, Act.put, v0, v1, v2, v3, v4]
  clear v0 v1 v2 v3 v4 hI' hD'
  have m56 := M5.out
  have hcd := fun (b o : Nat) (h : b < w.heap.size + 3) => (hK'.cell (p := ⟨b, o, none⟩) (show b < wc.heap.size by omega) (show b ∉ [b5] by simp; omega)).trans (hc b o h)
  have hzd := fun (b o : Nat) (h : b < w.heap.size + 3) => (hK'.frozen (p := ⟨b, o, none⟩) (show b < wc.heap.size by omega) (show b ∉ [b5] by simp; omega)).trans (hz b o h)
  have k60 : wd.cell? ⟨b6, 0, none⟩ = some (fl ax) := (hK'.cell (p := ⟨b6, 0, none⟩) m56.2.1 (by simp; omega)).trans c60
  have k61 : wd.cell? ⟨b6, 1, none⟩ = some (fl ay) := (hK'.cell (p := ⟨b6, 1, none⟩) m56.2.1 (by simp; omega)).trans c61
  have k70 : wd.cell? ⟨b7, 0, none⟩ = some (fl bx) := (hK'.cell (p := ⟨b7, 0, none⟩) m56.2.2.1 (by simp; omega)).trans c70
  have k71 : wd.cell? ⟨b7, 1, none⟩ = some (fl bY) := (hK'.cell (p := ⟨b7, 1, none⟩) m56.2.2.1 (by simp; omega)).trans c71
  have k50 := cellAt g5' 0
  have k51 := cellAt g5' 1
  simp only [List.getElem?_toArray, List.getElem?_cons_zero, List.getElem?_cons_succ] at k50 k51
  have hBd : Below w.heap.size w wd := hB.trans ⟨hK'.os, hK'.tape, hK'.output, hK'.size, fun k hk => hK'.block k (show k < wc.heap.size by omega) (by simp; omega)⟩
  clear hK' m56 g5' c50 c51 c60 c61 c70 c71 z50 z51 hc hz G5 M5
  have p1 := nxt_gt hN hby (by omega)
  have p2 := nxt_lt hN hay (by omega)
  clear hN
  go_wp2
  rw [rounds_succ]
  go_wp2_with (simp only [Bool.true_eq_false])
  all_goals
    refine bodyPost_ret (v := .agg #[.bool false, .bool false]) (by simp [results, Tryz.results31, go_sem, hcd]) rfl ⟨rfl, ?_⟩
    exact (hBd.setCell (by simp; omega) _).setCell (by simp; omega) _

set_option maxRecDepth 100000 in
set_option maxHeartbeats 1000000 in
theorem ray_down_low_lt_l {ax ay bx bY px py : Nat} {Ax Ay Bx By Px Py : Int} (hax : Rep ax Ax) (hay : Rep ay Ay) (hbx : Rep bx Bx) (hby : Rep bY By) (hpx : Rep px Px) (hpy : Rep py Py) (h1 : By < Ay) (h2 : Ax < Bx) (h3 : Py = By) (hx : Px ≤ Ax) (hcr : (Px - Ax) * (By - Ay) ≠ (Py - Ay) * (Bx - Ax)) (b1 : -16384 ≤ Ax ∧ Ax ≤ 16384 ∧ -16384 ≤ Ay ∧ Ay ≤ 16384 ∧ -16384 ≤ Bx ∧ Bx ≤ 16384 ∧ -16384 ≤ By ∧ By ≤ 16384 ∧ -16384 ≤ Px ∧ Px ≤ 16384 ∧ -16384 ≤ Py ∧ Py ≤ 16384) (w : World) :
    Calls Tryz.prog 31 #[.agg #[fl ax, fl ay, fl bx, fl bY], .agg #[fl px, fl py]] w fun e w' => e = .returned (.agg #[.bool true, .bool false]) ∧ Below w.heap.size w w' := by
  have o1 := oR hpx hax
  have o2 := oR hpx hbx
  have o3 := oR hpy hay
  have o4 := oR hpy hby
  have o5 := oR hay hby
  have o6 := oR hax hbx
  obtain ⟨d1, e1, r1⟩ := sub_rep hpx hax (by omega)
  obtain ⟨d2, e2, r2⟩ := sub_rep hbx hax (by omega)
  obtain ⟨d3, e3, r3⟩ := sub_rep hpy hay (by omega)
  obtain ⟨d4, e4, r4⟩ := sub_rep hby hay (by omega)
  have s1 := runSub (P := Tryz.prog) e1
  have s2 := runSub (P := Tryz.prog) e2
  have s3 := runSub (P := Tryz.prog) e3
  have s4 := runSub (P := Tryz.prog) e4
  obtain ⟨k1, f1, t1⟩ := div_rep r1 r2 (by omega)
  obtain ⟨k2, f2, t2⟩ := div_rep r3 r4 (by omega)
  have q1 := runQuo (P := Tryz.prog) f1
  have q2 := runQuo (P := Tryz.prog) f2
  have hq := quo_ne t1 t2 (by omega) (by omega) (by omega) (by omega) (by omega) (by omega) hcr
  clear t1 t2 r1 r2 r3 r4 e1 e2 e3 e4 f1 f2 hcr
  go_enter Tryz.func31, Tryz.ntmps31
  go_wp2
  refine wp_region_K [] [.val (.agg #[fl px, fl py]), .val (.pointer (some ⟨w.heap.size, 0, none⟩)), .val (.agg #[fl ax, fl ay]), .val (.pointer (some ⟨w.heap.size, 2, none⟩)), .val (.agg #[fl bx, fl bY]),
      .made 64 2, .made 64 2, .made 64 2, .filled 5 #[fl px, fl py] 64, .filled 6 #[fl ax, fl ay] 64, .filled 7 #[fl bx, fl bY] 64]
    [[.ini 3], [.ini 2], [.frm 1 9], [.ini 2], [.frm 3 11], [], [], [], [.frm 5 5, .frm 0 8], [.frm 6 6, .frm 2 10], [.frm 7 7, .frm 4 12]]
    mixed (by kernel_rfl) (by kernel_rfl) (by simp [Ent.val, Ent.made, Ent.filledP]) ⟨OpOk.quiet rfl ?_, OpOk.quiet rfl ?_, OpOk.quiet rfl ?_, OpOk.quiet rfl ?_, OpOk.quiet rfl ?_, OpOk.made (cs := #[fl 0, fl 0]) rfl rfl ?_, OpOk.made (cs := #[fl 0, fl 0]) rfl rfl ?_, OpOk.made (cs := #[fl 0, fl 0]) rfl rfl ?_,
      OpOk.fillRow (k := 5) rfl rfl (by kernel_rfl) rfl ?_ (by kernel_rfl) (by simp [Value.oneCell']) ?_ ?_, OpOk.fillRow (k := 6) rfl rfl (by kernel_rfl) rfl ?_ (by kernel_rfl) (by simp [Value.oneCell']) ?_ ?_, OpOk.fillRow (k := 7) rfl rfl (by kernel_rfl) rfl ?_ (by kernel_rfl) (by simp [Value.oneCell']) ?_ ?_, trivial⟩ ?_
  all_goals first
    | (intro a u hG hf
       simp [facts, Need.fact, Ent.val, Act.eval] at hf
       have hc := fun (b o : Nat) (h : b < w.heap.size + 3) => hG.cell (p := ⟨b, o, none⟩) (by simpa using h) (by simp)
       go_simp
       done)
    | (simp [Ent.val, Ent.made, Ent.filledP]; done)
    | exact fun a w hf => ⟨hf.1, hf.2.1.elim fun _ h => h.elim fun _ h => h⟩
    | exact fun w b cs h hb => Keep.setRow h (.inl hb)
    | skip
  intro u l h wc hK hE hI hD
  simp [allE, allPut, Act.put, Act.eval, Ent.val, Ent.made, Ent.filledP] at hE
  obtain ⟨u0, u1, u2, u3, u4, ⟨b5, u5, l5, h5, -⟩, ⟨b6, u6, l6, h6, -⟩, ⟨b7, u7, l7, h7, -⟩, ⟨b5', v5, g5⟩, ⟨b6', v6, g6⟩, ⟨b7', v7, g7⟩⟩ := hE
  obtain rfl : b5 = b5' := by rw [u5] at v5; simpa using v5
  obtain rfl : b6 = b6' := by rw [u6] at v6; simpa using v6
  obtain rfl : b7 = b7' := by rw [u7] at v7; simpa using v7
  simp only [allPut, Act.put, u0, u1, u2, u3, u4, u5, u6, u7]
  clear v5 v6 v7 u0 u1 u2 u3 u4 u5 u6 u7
  have i5 := hI 5 (by simp)
  have i6 := hI 6 (by simp)
  have i7 := hI 7 (by simp)
  have d56 := hD 5 6 (by simp) (by simp) (by omega)
  have d57 := hD 5 7 (by simp) (by simp) (by omega)
  simp at i5 i6 i7
  have hc := fun (b o : Nat) (h : b < w.heap.size + 3) => hK.cell (p := ⟨b, o, none⟩) (by simpa using h) (by simp)
  have hz := fun (b o : Nat) (h : b < w.heap.size + 3) => hK.frozen (p := ⟨b, o, none⟩) (by simpa using h) (by simp)
  have c50 := cellAt g5 0
  have c51 := cellAt g5 1
  have c60 := cellAt g6 0
  have c61 := cellAt g6 1
  have c70 := cellAt g7 0
  have c71 := cellAt g7 1
  simp only [List.getElem?_toArray, List.getElem?_cons_zero, List.getElem?_cons_succ] at c50 c51 c60 c61 c70 c71
  have z50 := frozenAt g5 0
  have z51 := frozenAt g5 1
  have n5 : (w.heap.size + 2 = b5) = False := by simp; omega
  have n6 : (w.heap.size + 2 = b6) = False := by simp; omega
  have n7 : (w.heap.size + 2 = b7) = False := by simp; omega
  have n5' : (b5 = w.heap.size + 2) = False := by simp; omega
  have n6' : (b6 = w.heap.size + 2) = False := by simp; omega
  have n7' : (b7 = w.heap.size + 2) = False := by simp; omega
  have n56 : (b5 = b6) = False := by simp; omega
  have n65 : (b6 = b5) = False := by simp; omega
  have n57 : (b5 = b7) = False := by simp; omega
  have n75 : (b7 = b5) = False := by simp; omega
  have hB : Below w.heap.size w wc := (((Below.refl _ _).alloc (Nat.le_refl _) _).alloc (by simp) _ |>.alloc (by simp; omega) _).trans (hK.below.mono (by simp; omega))
  have hsz : w.heap.size + 3 ≤ wc.heap.size := by simpa using hK.size
  have m5 : w.heap.size ≤ b5 := by omega
  have G5 : Hid (wc.heap[b5]? = some (.cells #[fl px, fl py] 64 (0, 0))) := g5
  have M5 : Hid (b5 < wc.heap.size ∧ b6 < wc.heap.size ∧ b7 < wc.heap.size ∧ w.heap.size + 3 ≤ b5 ∧ b6 ≠ b5 ∧ b7 ≠ b5) := ⟨by omega, by omega, by omega, by omega, by omega, by omega⟩
  clear hK hI hD g5 g6 g7 d56 d57 i5 i6 i7 l5 h5 l6 h6 l7 h7
  go_wp2_with (simp only [s1, s2, s3, s4, q1, q2])
  refine wp_loop_rounds 2 ?_
  rw [rounds_succ]
  go_wp2_with fail
  refine wp_region_K [b5] [.val (.pointer (some ⟨b5, 1, none⟩)), .val (fl py), .val (fl 9218868437227405312), .of (fun v => ∃ x', v = fl x' ∧ Nxt x' Py), .val (.pointer (some ⟨b5, 1, none⟩)),
      .turn b5 #[fl px, fl py] (fun cs => ∃ x', cs = #[fl px, fl x'] ∧ Nxt x' Py) 64]
    [[.ini 5], [.frm 0 183, .til 5], [], [.frm 1 184, .frm 2 185], [.ini 5], [.frm 4 187, .frm 3 186, .til 5]]
    mixed (by kernel_rfl) (by kernel_rfl) (by simp [Ent.val, Ent.of, Ent.turn]; exact G5.out) ⟨OpOk.quiet rfl ?_, OpOk.quiet rfl ?_, OpOk.call rfl ?_, OpOk.call rfl ?_, OpOk.quiet rfl ?_, OpOk.turn rfl ?_ (by kernel_rfl) ?_ ?_ ?_, trivial⟩ ?_
  · intro a u hG hf
    simp [facts, Need.fact, Ent.val, Act.eval] at hf
    go_simp
  · intro a u hG hf
    have hf2 : u.heap[b5]? = some (.cells #[fl px, fl py] 64 (0, 0)) := hf.2.1
    have hc5 := cellAt hf2 1
    simp only [List.getElem?_toArray, List.getElem?_cons_zero, List.getElem?_cons_succ] at hc5
    simp [facts, Need.fact, Ent.val, Ent.turn, Act.eval] at hf
    go_simp
  · intro a u hG hf
    refine ⟨_, _, by go_simp, (inf_c _).mono ?_⟩
    rintro e w' ⟨rfl, rfl⟩
    exact ⟨_, rfl, Ext.refl _, rfl⟩
  · intro a u hG hf
    simp [facts, Need.fact, Ent.val, Act.eval] at hf
    refine ⟨_, _, by go_simp, (nextafter_c hpy (by omega) _).mono ?_⟩
    rintro e w' ⟨x', rfl, hN, rfl⟩
    exact ⟨_, rfl, Ext.refl _, x', rfl, hN⟩
  · intro a u hG hf
    simp [facts, Need.fact, Ent.val, Act.eval] at hf
    go_simp
  · exact M5.out.1
  · intro j e he hj
    match j, he, hj with
    | 0, he, _ => simp at he; subst he; simp [Ent.val]
    | 1, he, _ => simp at he; subst he; simp [Ent.val]
    | 2, he, _ => simp at he; subst he; simp [Ent.val]
    | 3, he, _ => simp at he; subst he; simp [Ent.of]
    | 4, he, _ => simp at he; subst he; simp [Ent.val]
    | 5, _, hj => exact absurd rfl hj
    | j + 6, he, _ => simp at he
  · intro a u hG hf
    obtain ⟨⟨_, _, f1⟩, ⟨_, _, x', f2, hN⟩, f3, _⟩ := hf
    have f1 : a.eval (.tmp 187) = .pointer (some ⟨b5, 1, none⟩) := f1
    have f2 : a.eval (.tmp 186) = fl x' := f2
    have f3 : u.heap[b5]? = some (.cells #[fl px, fl py] 64 (0, 0)) := f3
    exact ⟨_, _, _, f3, run_store_cell 53 (.tmp 187) (.tmp 186) rfl b5 1 (fl x') f1 f2 64 _ f3 (by kernel_rfl) (by simp) rfl, .inl rfl, x', rfl, hN⟩
  · exact fun u cs h => Keep.setRow h (.inr (by simp))
  intro u' l' h' wd hK' hE' hI' hD'
  simp [allE, allPut, Act.put, Act.eval, Ent.val, Ent.of, Ent.turn] at hE'
  obtain ⟨v0, v1, v2, ⟨x0, v3, -⟩, v4, cs', ⟨x', rfl, hN⟩, g5'⟩ := hE'
  simp only [allPut, Act.put, v0, v1, v2, v3, v4]
  clear v0 v1 v2 v3 v4 hI' hD'
  have m56 := M5.out
  have hcd := fun (b o : Nat) (h : b < w.heap.size + 3) => (hK'.cell (p := ⟨b, o, none⟩) (show b < wc.heap.size by omega) (show b ∉ [b5] by simp; omega)).trans (hc b o h)
  have hzd := fun (b o : Nat) (h : b < w.heap.size + 3) => (hK'.frozen (p := ⟨b, o, none⟩) (show b < wc.heap.size by omega) (show b ∉ [b5] by simp; omega)).trans (hz b o h)
  have k60 : wd.cell? ⟨b6, 0, none⟩ = some (fl ax) := (hK'.cell (p := ⟨b6, 0, none⟩) m56.2.1 (by simp; omega)).trans c60
  have k61 : wd.cell? ⟨b6, 1, none⟩ = some (fl ay) := (hK'.cell (p := ⟨b6, 1, none⟩) m56.2.1 (by simp; omega)).trans c61
  have k70 : wd.cell? ⟨b7, 0, none⟩ = some (fl bx) := (hK'.cell (p := ⟨b7, 0, none⟩) m56.2.2.1 (by simp; omega)).trans c70
  have k71 : wd.cell? ⟨b7, 1, none⟩ = some (fl bY) := (hK'.cell (p := ⟨b7, 1, none⟩) m56.2.2.1 (by simp; omega)).trans c71
  have k50 := cellAt g5' 0
  have k51 := cellAt g5' 1
  simp only [List.getElem?_toArray, List.getElem?_cons_zero, List.getElem?_cons_succ] at k50 k51
  have hBd : Below w.heap.size w wd := hB.trans ⟨hK'.os, hK'.tape, hK'.output, hK'.size, fun k hk => hK'.block k (show k < wc.heap.size by omega) (by simp; omega)⟩
  clear hK' m56 g5' c50 c51 c60 c61 c70 c71 z50 z51 hc hz G5 M5
  have p1 := nxt_gt hN hby (by omega)
  have p2 := nxt_lt hN hay (by omega)
  clear hN
  go_wp2
  rw [rounds_succ]
  go_wp2_with (simp only [Bool.true_eq_false])
  all_goals
    refine bodyPost_ret (v := .agg #[.bool true, .bool false]) (by simp [results, Tryz.results31, go_sem, hcd]) rfl ⟨rfl, ?_⟩
    exact (hBd.setCell (by simp; omega) _).setCell (by simp; omega) _

set_option maxRecDepth 100000 in
set_option maxHeartbeats 1000000 in
theorem ray_down_low_lt_r {ax ay bx bY px py : Nat} {Ax Ay Bx By Px Py : Int} (hax : Rep ax Ax) (hay : Rep ay Ay) (hbx : Rep bx Bx) (hby : Rep bY By) (hpx : Rep px Px) (hpy : Rep py Py) (h1 : By < Ay) (h2 : Ax < Bx) (h3 : Py = By) (hx : Bx ≤ Px) (hcr : (Px - Ax) * (By - Ay) ≠ (Py - Ay) * (Bx - Ax)) (b1 : -16384 ≤ Ax ∧ Ax ≤ 16384 ∧ -16384 ≤ Ay ∧ Ay ≤ 16384 ∧ -16384 ≤ Bx ∧ Bx ≤ 16384 ∧ -16384 ≤ By ∧ By ≤ 16384 ∧ -16384 ≤ Px ∧ Px ≤ 16384 ∧ -16384 ≤ Py ∧ Py ≤ 16384) (w : World) :
    Calls Tryz.prog 31 #[.agg #[fl ax, fl ay, fl bx, fl bY], .agg #[fl px, fl py]] w fun e w' => e = .returned (.agg #[.bool false, .bool false]) ∧ Below w.heap.size w w' := by
  have o1 := oR hpx hax
  have o2 := oR hpx hbx
  have o3 := oR hpy hay
  have o4 := oR hpy hby
  have o5 := oR hay hby
  have o6 := oR hax hbx
  obtain ⟨d1, e1, r1⟩ := sub_rep hpx hax (by omega)
  obtain ⟨d2, e2, r2⟩ := sub_rep hbx hax (by omega)
  obtain ⟨d3, e3, r3⟩ := sub_rep hpy hay (by omega)
  obtain ⟨d4, e4, r4⟩ := sub_rep hby hay (by omega)
  have s1 := runSub (P := Tryz.prog) e1
  have s2 := runSub (P := Tryz.prog) e2
  have s3 := runSub (P := Tryz.prog) e3
  have s4 := runSub (P := Tryz.prog) e4
  obtain ⟨k1, f1, t1⟩ := div_rep r1 r2 (by omega)
  obtain ⟨k2, f2, t2⟩ := div_rep r3 r4 (by omega)
  have q1 := runQuo (P := Tryz.prog) f1
  have q2 := runQuo (P := Tryz.prog) f2
  have hq := quo_ne t1 t2 (by omega) (by omega) (by omega) (by omega) (by omega) (by omega) hcr
  clear t1 t2 r1 r2 r3 r4 e1 e2 e3 e4 f1 f2 hcr
  go_enter Tryz.func31, Tryz.ntmps31
  go_wp2
  refine wp_region_K [] [.val (.agg #[fl px, fl py]), .val (.pointer (some ⟨w.heap.size, 0, none⟩)), .val (.agg #[fl ax, fl ay]), .val (.pointer (some ⟨w.heap.size, 2, none⟩)), .val (.agg #[fl bx, fl bY]),
      .made 64 2, .made 64 2, .made 64 2, .filled 5 #[fl px, fl py] 64, .filled 6 #[fl ax, fl ay] 64, .filled 7 #[fl bx, fl bY] 64]
    [[.ini 3], [.ini 2], [.frm 1 9], [.ini 2], [.frm 3 11], [], [], [], [.frm 5 5, .frm 0 8], [.frm 6 6, .frm 2 10], [.frm 7 7, .frm 4 12]]
    mixed (by kernel_rfl) (by kernel_rfl) (by simp [Ent.val, Ent.made, Ent.filledP]) ⟨OpOk.quiet rfl ?_, OpOk.quiet rfl ?_, OpOk.quiet rfl ?_, OpOk.quiet rfl ?_, OpOk.quiet rfl ?_, OpOk.made (cs := #[fl 0, fl 0]) rfl rfl ?_, OpOk.made (cs := #[fl 0, fl 0]) rfl rfl ?_, OpOk.made (cs := #[fl 0, fl 0]) rfl rfl ?_,
      OpOk.fillRow (k := 5) rfl rfl (by kernel_rfl) rfl ?_ (by kernel_rfl) (by simp [Value.oneCell']) ?_ ?_, OpOk.fillRow (k := 6) rfl rfl (by kernel_rfl) rfl ?_ (by kernel_rfl) (by simp [Value.oneCell']) ?_ ?_, OpOk.fillRow (k := 7) rfl rfl (by kernel_rfl) rfl ?_ (by kernel_rfl) (by simp [Value.oneCell']) ?_ ?_, trivial⟩ ?_
  all_goals first
    | (intro a u hG hf
       simp [facts, Need.fact, Ent.val, Act.eval] at hf
       have hc := fun (b o : Nat) (h : b < w.heap.size + 3) => hG.cell (p := ⟨b, o, none⟩) (by simpa using h) (by simp)
       go_simp
       done)
    | (simp [Ent.val, Ent.made, Ent.filledP]; done)
    | exact fun a w hf => ⟨hf.1, hf.2.1.elim fun _ h => h.elim fun _ h => h⟩
    | exact fun w b cs h hb => Keep.setRow h (.inl hb)
    | skip
  intro u l h wc hK hE hI hD
  simp [allE, allPut, Act.put, Act.eval, Ent.val, Ent.made, Ent.filledP] at hE
  obtain ⟨u0, u1, u2, u3, u4, ⟨b5, u5, l5, h5, -⟩, ⟨b6, u6, l6, h6, -⟩, ⟨b7, u7, l7, h7, -⟩, ⟨b5', v5, g5⟩, ⟨b6', v6, g6⟩, ⟨b7', v7, g7⟩⟩ := hE
  obtain rfl : b5 = b5' := by rw [u5] at v5; simpa using v5
  obtain rfl : b6 = b6' := by rw [u6] at v6; simpa using v6
  obtain rfl : b7 = b7' := by rw [u7] at v7; simpa using v7
  simp only [allPut, Act.put, u0, u1, u2, u3, u4, u5, u6, u7]
  clear v5 v6 v7 u0 u1 u2 u3 u4 u5 u6 u7
  have i5 := hI 5 (by simp)
  have i6 := hI 6 (by simp)
  have i7 := hI 7 (by simp)
  have d56 := hD 5 6 (by simp) (by simp) (by omega)
  have d57 := hD 5 7 (by simp) (by simp) (by omega)
  simp at i5 i6 i7
  have hc := fun (b o : Nat) (h : b < w.heap.size + 3) => hK.cell (p := ⟨b, o, none⟩) (by simpa using h) (by simp)
  have hz := fun (b o : Nat) (h : b < w.heap.size + 3) => hK.frozen (p := ⟨b, o, none⟩) (by simpa using h) (by simp)
  have c50 := cellAt g5 0
  have c51 := cellAt g5 1
  have c60 := cellAt g6 0
  have c61 := cellAt g6 1
  have c70 := cellAt g7 0
  have c71 := cellAt g7 1
  simp only [List.getElem?_toArray, List.getElem?_cons_zero, List.getElem?_cons_succ] at c50 c51 c60 c61 c70 c71
  have z50 := frozenAt g5 0
  have z51 := frozenAt g5 1
  have n5 : (w.heap.size + 2 = b5) = False := by simp; omega
  have n6 : (w.heap.size + 2 = b6) = False := by simp; omega
  have n7 : (w.heap.size + 2 = b7) = False := by simp; omega
  have n5' : (b5 = w.heap.size + 2) = False := by simp; omega
  have n6' : (b6 = w.heap.size + 2) = False := by simp; omega
  have n7' : (b7 = w.heap.size + 2) = False := by simp; omega
  have n56 : (b5 = b6) = False := by simp; omega
  have n65 : (b6 = b5) = False := by simp; omega
  have n57 : (b5 = b7) = False := by simp; omega
  have n75 : (b7 = b5) = False := by simp; omega
  have hB : Below w.heap.size w wc := (((Below.refl _ _).alloc (Nat.le_refl _) _).alloc (by simp) _ |>.alloc (by simp; omega) _).trans (hK.below.mono (by simp; omega))
  have hsz : w.heap.size + 3 ≤ wc.heap.size := by simpa using hK.size
  have m5 : w.heap.size ≤ b5 := by omega
  have G5 : Hid (wc.heap[b5]? = some (.cells #[fl px, fl py] 64 (0, 0))) := g5
  have M5 : Hid (b5 < wc.heap.size ∧ b6 < wc.heap.size ∧ b7 < wc.heap.size ∧ w.heap.size + 3 ≤ b5 ∧ b6 ≠ b5 ∧ b7 ≠ b5) := ⟨by omega, by omega, by omega, by omega, by omega, by omega⟩
  clear hK hI hD g5 g6 g7 d56 d57 i5 i6 i7 l5 h5 l6 h6 l7 h7
  go_wp2_with (simp only [s1, s2, s3, s4, q1, q2])
  refine wp_loop_rounds 2 ?_
  rw [rounds_succ]
  go_wp2_with fail
  refine wp_region_K [b5] [.val (.pointer (some ⟨b5, 1, none⟩)), .val (fl py), .val (fl 9218868437227405312), .of (fun v => ∃ x', v = fl x' ∧ Nxt x' Py), .val (.pointer (some ⟨b5, 1, none⟩)),
      .turn b5 #[fl px, fl py] (fun cs => ∃ x', cs = #[fl px, fl x'] ∧ Nxt x' Py) 64]
    [[.ini 5], [.frm 0 183, .til 5], [], [.frm 1 184, .frm 2 185], [.ini 5], [.frm 4 187, .frm 3 186, .til 5]]
    mixed (by kernel_rfl) (by kernel_rfl) (by simp [Ent.val, Ent.of, Ent.turn]; exact G5.out) ⟨OpOk.quiet rfl ?_, OpOk.quiet rfl ?_, OpOk.call rfl ?_, OpOk.call rfl ?_, OpOk.quiet rfl ?_, OpOk.turn rfl ?_ (by kernel_rfl) ?_ ?_ ?_, trivial⟩ ?_
  · intro a u hG hf
    simp [facts, Need.fact, Ent.val, Act.eval] at hf
    go_simp
  · intro a u hG hf
    have hf2 : u.heap[b5]? = some (.cells #[fl px, fl py] 64 (0, 0)) := hf.2.1
    have hc5 := cellAt hf2 1
    simp only [List.getElem?_toArray, List.getElem?_cons_zero, List.getElem?_cons_succ] at hc5
    simp [facts, Need.fact, Ent.val, Ent.turn, Act.eval] at hf
    go_simp
  · intro a u hG hf
    refine ⟨_, _, by go_simp, (inf_c _).mono ?_⟩
    rintro e w' ⟨rfl, rfl⟩
    exact ⟨_, rfl, Ext.refl _, rfl⟩
  · intro a u hG hf
    simp [facts, Need.fact, Ent.val, Act.eval] at hf
    refine ⟨_, _, by go_simp, (nextafter_c hpy (by omega) _).mono ?_⟩
    rintro e w' ⟨x', rfl, hN, rfl⟩
    exact ⟨_, rfl, Ext.refl _, x', rfl, hN⟩
  · intro a u hG hf
    simp [facts, Need.fact, Ent.val, Act.eval] at hf
    go_simp
  · exact M5.out.1
  · intro j e he hj
    match j, he, hj with
    | 0, he, _ => simp at he; subst he; simp [Ent.val]
    | 1, he, _ => simp at he; subst he; simp [Ent.val]
    | 2, he, _ => simp at he; subst he; simp [Ent.val]
    | 3, he, _ => simp at he; subst he; simp [Ent.of]
    | 4, he, _ => simp at he; subst he; simp [Ent.val]
    | 5, _, hj => exact absurd rfl hj
    | j + 6, he, _ => simp at he
  · intro a u hG hf
    obtain ⟨⟨_, _, f1⟩, ⟨_, _, x', f2, hN⟩, f3, _⟩ := hf
    have f1 : a.eval (.tmp 187) = .pointer (some ⟨b5, 1, none⟩) := f1
    have f2 : a.eval (.tmp 186) = fl x' := f2
    have f3 : u.heap[b5]? = some (.cells #[fl px, fl py] 64 (0, 0)) := f3
    exact ⟨_, _, _, f3, run_store_cell 53 (.tmp 187) (.tmp 186) rfl b5 1 (fl x') f1 f2 64 _ f3 (by kernel_rfl) (by simp) rfl, .inl rfl, x', rfl, hN⟩
  · exact fun u cs h => Keep.setRow h (.inr (by simp))
  intro u' l' h' wd hK' hE' hI' hD'
  simp [allE, allPut, Act.put, Act.eval, Ent.val, Ent.of, Ent.turn] at hE'
  obtain ⟨v0, v1, v2, ⟨x0, v3, -⟩, v4, cs', ⟨x', rfl, hN⟩, g5'⟩ := hE'
  simp only [allPut, Act.put, v0, v1, v2, v3, v4]
  clear v0 v1 v2 v3 v4 hI' hD'
  have m56 := M5.out
  have hcd := fun (b o : Nat) (h : b < w.heap.size + 3) => (hK'.cell (p := ⟨b, o, none⟩) (show b < wc.heap.size by omega) (show b ∉ [b5] by simp; omega)).trans (hc b o h)
  have hzd := fun (b o : Nat) (h : b < w.heap.size + 3) => (hK'.frozen (p := ⟨b, o, none⟩) (show b < wc.heap.size by omega) (show b ∉ [b5] by simp; omega)).trans (hz b o h)
  have k60 : wd.cell? ⟨b6, 0, none⟩ = some (fl ax) := (hK'.cell (p := ⟨b6, 0, none⟩) m56.2.1 (by simp; omega)).trans c60
  have k61 : wd.cell? ⟨b6, 1, none⟩ = some (fl ay) := (hK'.cell (p := ⟨b6, 1, none⟩) m56.2.1 (by simp; omega)).trans c61
  have k70 : wd.cell? ⟨b7, 0, none⟩ = some (fl bx) := (hK'.cell (p := ⟨b7, 0, none⟩) m56.2.2.1 (by simp; omega)).trans c70
  have k71 : wd.cell? ⟨b7, 1, none⟩ = some (fl bY) := (hK'.cell (p := ⟨b7, 1, none⟩) m56.2.2.1 (by simp; omega)).trans c71
  have k50 := cellAt g5' 0
  have k51 := cellAt g5' 1
  simp only [List.getElem?_toArray, List.getElem?_cons_zero, List.getElem?_cons_succ] at k50 k51
  have hBd : Below w.heap.size w wd := hB.trans ⟨hK'.os, hK'.tape, hK'.output, hK'.size, fun k hk => hK'.block k (show k < wc.heap.size by omega) (by simp; omega)⟩
  clear hK' m56 g5' c50 c51 c60 c61 c70 c71 z50 z51 hc hz G5 M5
  have p1 := nxt_gt hN hby (by omega)
  have p2 := nxt_lt hN hay (by omega)
  clear hN
  go_wp2
  rw [rounds_succ]
  go_wp2_with (simp only [Bool.true_eq_false])
  all_goals
    refine bodyPost_ret (v := .agg #[.bool false, .bool false]) (by simp [results, Tryz.results31, go_sem, hcd]) rfl ⟨rfl, ?_⟩
    exact (hBd.setCell (by simp; omega) _).setCell (by simp; omega) _
end Go.Proofs.YtdlcckkphjpeoaaGreat
