import Derived.Test.YtbfanhdofopnnaaGreatSr
import Derived.Test.YtbfanhdofopnnaaGreatBlk
set_option linter.unusedSimpArgs false
set_option linter.unusedVariables false
namespace PF
open Go
structure Stop0 (p : Prop) : Prop where out : p
theorem retB0 {b c : Bool} {P : Prop} [Decidable P] (h : decide P = c) (h2 : b = true ↔ P) : Ending.returned (.bool b) = .returned (.bool c) := by
  subst h; congr 2; cases b <;> simp_all
end PF
namespace Go.Proofs.YtbfanhdofopnnaaGreat
open Go.RowKit PF JR

theorem eqZ_c {x : Nat} {n : Int} (hx : Rep x n) (w : World) : Calls Tryz.prog 69 #[fl x] w fun e w' => e = .returned (.bool (decide (n = 0))) ∧ w' = w := by
  have o := oR hx rep0
  generalize hAns : decide (n = 0) = ans
  go_enter Tryz.func69, Tryz.ntmps69
  go_wp2
  all_goals
    go_ret
    exact ⟨retB0 hAns (by simp; omega), rfl⟩

/-- on which side of the line from a to b the point p is -/
def _root_.PF.side (ax ay bx b_y px py : Int) : Int := (bx - ax) * (py - ay) - (b_y - ay) * (px - ax)

set_option maxHeartbeats 800000 in
theorem col_c {ax ay bx bY px py : Nat} {Ax Ay Bx By Px Py : Int} (hax : Rep ax Ax) (hay : Rep ay Ay) (hbx : Rep bx Bx) (hby : Rep bY By) (hpx : Rep px Px) (hpy : Rep py Py)
    (b1 : -16384 ≤ Ax ∧ Ax ≤ 16384 ∧ -16384 ≤ Ay ∧ Ay ≤ 16384 ∧ -16384 ≤ Bx ∧ Bx ≤ 16384 ∧ -16384 ≤ By ∧ By ≤ 16384 ∧ -16384 ≤ Px ∧ Px ≤ 16384 ∧ -16384 ≤ Py ∧ Py ≤ 16384) (w : World) :
    Calls Tryz.prog 58 #[.agg #[fl ax, fl ay, fl bx, fl bY], .agg #[fl px, fl py]] w fun e w' => e = .returned (.bool (decide (side Ax Ay Bx By Px Py = 0))) ∧ Below w.heap.size w w' := by
  obtain ⟨d1, e1, r1⟩ := subR hpx hax (by omega)
  obtain ⟨d2, e2, r2⟩ := subR hbx hax (by omega)
  obtain ⟨d3, e3, r3⟩ := subR hpy hay (by omega)
  obtain ⟨d4, e4, r4⟩ := subR hby hay (by omega)
  have k1 := bmul (a := Px - Ax) (b := By - Ay) (by omega) (by omega)
  have k2 := bmul (a := Py - Ay) (b := Bx - Ax) (by omega) (by omega)
  obtain ⟨m1, f1, t1⟩ := mulR r1 r4 (by omega)
  obtain ⟨m2, f2, t2⟩ := mulR r3 r2 (by omega)
  obtain ⟨z, f3, t3⟩ := subR t1 t2 (by omega)
  have e : side Ax Ay Bx By Px Py = -((Px - Ax) * (By - Ay) - (Py - Ay) * (Bx - Ax)) := by unfold side; grind
  rw [e]
  generalize (Px - Ax) * (By - Ay) - (Py - Ay) * (Bx - Ax) = n at *
  rw [show decide (-n = 0) = decide (n = 0) from decide_eq_decide.2 (by omega)]
  clear k1 k2 e
  go_enter Tryz.func58, Tryz.ntmps58
  go_wp2
  go_quiet (fail)
  go_wp2
  go_quiet (fail)
  go_wp2_with (first | (go_at_call 69; refine (eqZ_c t3 _).mono ?_; rintro e w' ⟨rfl, rfl⟩))
  go_ret
  exact ⟨rfl, below_drewN (((Below.refl _ _).alloc (Nat.le_refl _) _).alloc (by simp) _) _⟩

set_option maxHeartbeats 400000 in
theorem corn_c {x0 y0 x1 y1 : Nat} {X0 Y0 X1 Y1 : Int} (h1 : Rep x0 X0) (h2 : Rep y0 Y0) (h3 : Rep x1 X1) (h4 : Rep y1 Y1)
    (fr : ∀ {px py : Nat} {PX PY : Int}, Rep px PX → Rep py PY → ∀ w : World, Calls Tryz.prog 41 #[.agg #[fl px, fl py]] w fun e w' => e = .returned (.agg #[.int .i64 PX, .int .i64 PY]) ∧ Below w.heap.size w w') (w : World) :
    Calls Tryz.prog 40 #[.agg #[fl x0, fl y0, fl x1, fl y1]] w fun e w' => e = .returned (.agg #[.int .i64 X0, .int .i64 Y0, .int .i64 X1, .int .i64 Y1]) ∧ Below w.heap.size w w' := by
  go_enter Tryz.func40, Tryz.ntmps40
  go_wp2
  refine wp_region_K [w.heap.size + 1] [.val (.pointer (some ⟨w.heap.size, 0, none⟩)),
      .val (.agg #[fl x0, fl y0]),
      .val (.agg #[.int .i64 X0, .int .i64 Y0]),
      .val (.pointer (some ⟨w.heap.size, 2, none⟩)),
      .val (.agg #[fl x1, fl y1]),
      .val (.agg #[.int .i64 X1, .int .i64 Y1]),
      .val (.agg #[.int .i64 X0, .int .i64 Y0, .int .i64 X1, .int .i64 Y1]),
      .turn (w.heap.size + 1) #[.int .i64 0, .int .i64 0, .int .i64 0, .int .i64 0] (· = #[.int .i64 X0, .int .i64 Y0, .int .i64 X1, .int .i64 Y1]) 49]
    [[.ini 1], [.frm 0 3], [.frm 1 4], [.ini 1], [.frm 3 6], [.frm 4 7], [.frm 2 5, .frm 5 8], [.ini 2, .frm 6 9, .til 7]]
    mixed (by kernel_rfl) (by kernel_rfl) (allPre_of ⟨trivial, trivial, trivial, trivial, trivial, trivial, trivial, allocAt (by simp), trivial⟩)
    ⟨OpOk.quiet rfl ?_,
      OpOk.quiet rfl ?_,
      OpOk.call rfl ?_,
      OpOk.quiet rfl ?_,
      OpOk.quiet rfl ?_,
      OpOk.call rfl ?_,
      OpOk.quiet rfl ?_,
      OpOk.turnRow rfl rfl (by simp) (by kernel_rfl) (oldFree_of ⟨.inr ((fun h => (nomatch h))), .inr ((fun h => (nomatch h))), .inr ((fun h => (nomatch h))), .inr ((fun h => (nomatch h))), .inr ((fun h => (nomatch h))), .inr ((fun h => (nomatch h))), .inr ((fun h => (nomatch h))), .inl rfl, trivial⟩) (by kernel_rfl) rfl (by simp [Value.oneCell']) (fun a w _ hf => ⟨hf.1, hf.2.1.elim fun _ h => h.elim fun _ h => h, hf.2.2.1⟩) (fun _ _ h => Keep.setRow h (.inr (by simp))), trivial⟩ ?_
  · intro a u _ hf
    simp [facts, Need.fact, Act.eval] at hf
    go_simp
  · intro a u hG hf
    simp [facts, Need.fact, Ent.val, Act.eval] at hf
    have hc := fun (b o : Nat) (h : b < w.heap.size + 1) => hG.cell (p := ⟨b, o, none⟩) (by simp; omega) (by simp; omega)
    go_simp
  · intro a u _ hf
    simp [facts, Need.fact, Ent.val, Act.eval] at hf
    refine ⟨_, _, by go_simp, (fr h1 h2 _).mono ?_⟩
    rintro e w' ⟨rfl, hb⟩
    exact ⟨_, rfl, hb, rfl⟩
  · intro a u _ hf
    simp [facts, Need.fact, Act.eval] at hf
    go_simp
  · intro a u hG hf
    simp [facts, Need.fact, Ent.val, Act.eval] at hf
    have hc := fun (b o : Nat) (h : b < w.heap.size + 1) => hG.cell (p := ⟨b, o, none⟩) (by simp; omega) (by simp; omega)
    go_simp
  · intro a u _ hf
    simp [facts, Need.fact, Ent.val, Act.eval] at hf
    refine ⟨_, _, by go_simp, (fr h3 h4 _).mono ?_⟩
    rintro e w' ⟨rfl, hb⟩
    exact ⟨_, rfl, hb, rfl⟩
  · intro a u _ hf
    simp [facts, Need.fact, Ent.val, Act.eval] at hf
    go_simp
  intro u l h wc hK hE hI hD
  simp [allE, Ent.turn, Ent.val] at hE
  obtain ⟨u0, u1, u2, u3, u4, u5, u6, g7⟩ := hE
  simp only [allPut, Act.put, u0, u1, u2, u3, u4, u5, u6]
  clear u0 u1 u2 u3 u4 u5 u6
  have q0 := cellAt g7 0
  have q1 := cellAt g7 1
  have q2 := cellAt g7 2
  have q3 := cellAt g7 3
  simp only [List.getElem?_toArray, List.getElem?_cons_zero, List.getElem?_cons_succ] at q0 q1 q2 q3
  have hB := Keep.belowX (B := w.heap.size) hK (((Below.refl _ _).alloc (Nat.le_refl _) _).alloc (by simp) _) (by simp; omega) (by simp)
  clear hK hI hD g7
  go_wp2
  exact bodyPost_ret (v := .agg #[.int .i64 X0, .int .i64 Y0, .int .i64 X1, .int .i64 Y1]) (by simp [results, Tryz.results40, go_sem, q0, q1, q2, q3]) rfl ⟨rfl, hB⟩

set_option maxHeartbeats 400000 in
theorem side_c (Ax Ay Bx By Px Py : Int) (b1 : -16384 ≤ Ax ∧ Ax ≤ 16384 ∧ -16384 ≤ Ay ∧ Ay ≤ 16384 ∧ -16384 ≤ Bx ∧ Bx ≤ 16384 ∧ -16384 ≤ By ∧ By ≤ 16384 ∧ -16384 ≤ Px ∧ Px ≤ 16384 ∧ -16384 ≤ Py ∧ Py ≤ 16384) (w : World) :
    Calls Tryz.prog 56 #[.agg #[.int .i64 Ax, .int .i64 Ay], .agg #[.int .i64 Bx, .int .i64 By], .agg #[.int .i64 Px, .int .i64 Py]] w fun e w' => e = .returned (.int .i64 (side Ax Ay Bx By Px Py)) ∧ Below w.heap.size w w' := by
  have k1 := bmul (a := Bx - Ax) (b := Py - Ay) (by omega) (by omega)
  have k2 := bmul (a := By - Ay) (b := Px - Ax) (by omega) (by omega)
  unfold side
  go_enter Tryz.func56, Tryz.ntmps56
  go_wp2
  go_ret
  exact ⟨rfl, (((Below.refl _ _).alloc (Nat.le_refl _) _).alloc (by simp) _).alloc (by simp; omega) _⟩

/-- two segments lie on one line, or one is a point -/
def _root_.PF.ovl (Ax Ay Bx By Cx Cy Dx Dy : Int) : Bool :=
  (decide (side Ax Ay Bx By Cx Cy = 0) && decide (side Ax Ay Bx By Dx Dy = 0)) || (decide (side Cx Cy Dx Dy Ax Ay = 0) && decide (side Cx Cy Dx Dy Bx By = 0))

set_option maxHeartbeats 800000 in
theorem ovl_c (Ax Ay Bx By Cx Cy Dx Dy : Int) (b1 : -16384 ≤ Ax ∧ Ax ≤ 16384 ∧ -16384 ≤ Ay ∧ Ay ≤ 16384 ∧ -16384 ≤ Bx ∧ Bx ≤ 16384 ∧ -16384 ≤ By ∧ By ≤ 16384)
    (b2 : -16384 ≤ Cx ∧ Cx ≤ 16384 ∧ -16384 ≤ Cy ∧ Cy ≤ 16384 ∧ -16384 ≤ Dx ∧ Dx ≤ 16384 ∧ -16384 ≤ Dy ∧ Dy ≤ 16384) (w : World) :
    Calls Tryz.prog 25 #[.agg #[.int .i64 Ax, .int .i64 Ay], .agg #[.int .i64 Bx, .int .i64 By], .agg #[.int .i64 Cx, .int .i64 Cy], .agg #[.int .i64 Dx, .int .i64 Dy]] w fun e w' => e = .returned (.bool (ovl Ax Ay Bx By Cx Cy Dx Dy)) ∧ Below w.heap.size w w' := by
  have s1 := fun w => side_c Ax Ay Bx By Cx Cy (by omega) w
  have s2 := fun w => side_c Ax Ay Bx By Dx Dy (by omega) w
  have s3 := fun w => side_c Cx Cy Dx Dy Ax Ay (by omega) w
  have s4 := fun w => side_c Cx Cy Dx Dy Bx By (by omega) w
  unfold ovl
  generalize side Ax Ay Bx By Cx Cy = n1 at *
  generalize side Ax Ay Bx By Dx Dy = n2 at *
  generalize side Cx Cy Dx Dy Ax Ay = n3 at *
  generalize side Cx Cy Dx Dy Bx By = n4 at *
  have st0 := ((((Blk.nil w).push rfl #[.int .i64 Ax, .int .i64 Ay] 59).push (b := w.heap.size + 1) (by simp) #[.int .i64 Bx, .int .i64 By] 59).push (b := w.heap.size + 1 + 1) (by simp) #[.int .i64 Cx, .int .i64 Cy] 59).push (b := w.heap.size + 1 + 1 + 1) (by simp) #[.int .i64 Dx, .int .i64 Dy] 59
  go_enter Tryz.func25, Tryz.ntmps25
  have d0 := st0.cell 0 rfl 0
  have d1 := st0.cell 0 rfl 1
  have c0 := st0.cell 1 rfl 0
  have c1 := st0.cell 1 rfl 1
  have b0 := st0.cell 2 rfl 0
  have b1 := st0.cell 2 rfl 1
  have a0 := st0.cell 3 rfl 0
  have a1 := st0.cell 3 rfl 1
  simp only [List.getElem?_toArray, List.getElem?_cons_zero, List.getElem?_cons_succ] at d0 d1 c0 c1 b0 b1 a0 a1
  go_wp2_with (go_at_call 56; refine PF.Stop0.out ?_)
  refine ⟨?_⟩
  refine (s1 _).mono ?_
  rintro e w1 ⟨rfl, hb⟩
  have st1 := st0.ext hb
  clear hb st0
  clear d0 d1 c0 c1 b0 b1 a0 a1
  by_cases z1 : n1 = 0
  · subst z1
    have d0 := st1.cell 0 rfl 0
    have d1 := st1.cell 0 rfl 1
    have c0 := st1.cell 1 rfl 0
    have c1 := st1.cell 1 rfl 1
    have b0 := st1.cell 2 rfl 0
    have b1 := st1.cell 2 rfl 1
    have a0 := st1.cell 3 rfl 0
    have a1 := st1.cell 3 rfl 1
    simp only [List.getElem?_toArray, List.getElem?_cons_zero, List.getElem?_cons_succ] at d0 d1 c0 c1 b0 b1 a0 a1
    go_wp2_with (go_at_call 56; refine PF.Stop0.out ?_)
    refine ⟨?_⟩
    refine (s2 _).mono ?_
    rintro e w2 ⟨rfl, hb⟩
    have st2 := st1.ext hb
    clear hb st1
    clear d0 d1 c0 c1 b0 b1 a0 a1
    by_cases z2 : n2 = 0
    · subst z2
      go_wp2
      go_ret
      exact ⟨by simp [], st2.hb⟩
    · have zz := z2
      have d0 := st2.cell 0 rfl 0
      have d1 := st2.cell 0 rfl 1
      have c0 := st2.cell 1 rfl 0
      have c1 := st2.cell 1 rfl 1
      have b0 := st2.cell 2 rfl 0
      have b1 := st2.cell 2 rfl 1
      have a0 := st2.cell 3 rfl 0
      have a1 := st2.cell 3 rfl 1
      simp only [List.getElem?_toArray, List.getElem?_cons_zero, List.getElem?_cons_succ] at d0 d1 c0 c1 b0 b1 a0 a1
      go_wp2_with (go_at_call 56; refine PF.Stop0.out ?_)
      refine ⟨?_⟩
      refine (s3 _).mono ?_
      rintro e w3 ⟨rfl, hb⟩
      have st3 := st2.ext hb
      clear hb st2
      clear d0 d1 c0 c1 b0 b1 a0 a1
      by_cases z3 : n3 = 0
      · subst z3
        have d0 := st3.cell 0 rfl 0
        have d1 := st3.cell 0 rfl 1
        have c0 := st3.cell 1 rfl 0
        have c1 := st3.cell 1 rfl 1
        have b0 := st3.cell 2 rfl 0
        have b1 := st3.cell 2 rfl 1
        have a0 := st3.cell 3 rfl 0
        have a1 := st3.cell 3 rfl 1
        simp only [List.getElem?_toArray, List.getElem?_cons_zero, List.getElem?_cons_succ] at d0 d1 c0 c1 b0 b1 a0 a1
        go_wp2_with (go_at_call 56; refine PF.Stop0.out ?_)
        refine ⟨?_⟩
        refine (s4 _).mono ?_
        rintro e w4 ⟨rfl, hb⟩
        have st4 := st3.ext hb
        clear hb st3
        clear d0 d1 c0 c1 b0 b1 a0 a1
        by_cases z4 : n4 = 0
        · subst z4
          go_wp2
          go_ret
          exact ⟨by simp [z2], st4.hb⟩
        · go_wp2
          go_ret
          exact ⟨by simp [z2, z4], st4.hb⟩
      · go_wp2
        go_ret
        exact ⟨by simp [z2, z3], st3.hb⟩
  · have zz := z1
    have d0 := st1.cell 0 rfl 0
    have d1 := st1.cell 0 rfl 1
    have c0 := st1.cell 1 rfl 0
    have c1 := st1.cell 1 rfl 1
    have b0 := st1.cell 2 rfl 0
    have b1 := st1.cell 2 rfl 1
    have a0 := st1.cell 3 rfl 0
    have a1 := st1.cell 3 rfl 1
    simp only [List.getElem?_toArray, List.getElem?_cons_zero, List.getElem?_cons_succ] at d0 d1 c0 c1 b0 b1 a0 a1
    go_wp2_with (go_at_call 56; refine PF.Stop0.out ?_)
    refine ⟨?_⟩
    refine (s3 _).mono ?_
    rintro e w3 ⟨rfl, hb⟩
    have st3 := st1.ext hb
    clear hb st1
    clear d0 d1 c0 c1 b0 b1 a0 a1
    by_cases z3 : n3 = 0
    · subst z3
      have d0 := st3.cell 0 rfl 0
      have d1 := st3.cell 0 rfl 1
      have c0 := st3.cell 1 rfl 0
      have c1 := st3.cell 1 rfl 1
      have b0 := st3.cell 2 rfl 0
      have b1 := st3.cell 2 rfl 1
      have a0 := st3.cell 3 rfl 0
      have a1 := st3.cell 3 rfl 1
      simp only [List.getElem?_toArray, List.getElem?_cons_zero, List.getElem?_cons_succ] at d0 d1 c0 c1 b0 b1 a0 a1
      go_wp2_with (go_at_call 56; refine PF.Stop0.out ?_)
      refine ⟨?_⟩
      refine (s4 _).mono ?_
      rintro e w4 ⟨rfl, hb⟩
      have st4 := st3.ext hb
      clear hb st3
      clear d0 d1 c0 c1 b0 b1 a0 a1
      by_cases z4 : n4 = 0
      · subst z4
        go_wp2
        go_ret
        exact ⟨by simp [z1], st4.hb⟩
      · go_wp2
        go_ret
        exact ⟨by simp [z1, z4], st4.hb⟩
    · go_wp2
      go_ret
      exact ⟨by simp [z1, z3], st3.hb⟩
end Go.Proofs.YtbfanhdofopnnaaGreat
