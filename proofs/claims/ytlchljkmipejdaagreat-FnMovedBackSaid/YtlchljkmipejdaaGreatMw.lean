import Derived.Test.YtlchljkmipejdaaGreatMo
import Derived.Test.YtlchljkmipejdaaGreatSm
import Derived.Test.YtlchljkmipejdaaGreatAwake
set_option linter.unusedSimpArgs false
set_option linter.unusedVariables false
namespace JR
open Go Go.RowKit
theorem wanted_ofM {ops : Array Oper} {o : Oper} {a : Act} {j t : Nat} {b : Bool} (hg : o.guard = some (j, b)) (hd : (ops[j]?).bind (·.dst) = some t) (hv : a.eval (.tmp t) = .bool b) : Region.wanted o (yielded ops a.tmps) = true := by
  have h : a.tmps[t]? = some (.bool b) := by
    cases hh : a.tmps[t]? with
    | none => simp [Act.eval, hh, undef] at hv
    | some x => simp [Act.eval, hh] at hv; rw [hv]
  have e : ((ops[j]?).bind (·.dst)).bind (a.tmps[·]?) = some (.bool b) := by simp only [hd]; exact h
  have y : yielded ops a.tmps j = some b := by unfold yielded; simp only [e]
  unfold Region.wanted
  simp [hg, y]
section
variable {P : Program} {ops : Array Oper} {Q : Exit → Act → World → Prop} {G : World → Prop} {B0 : Nat} {plan : List Ent} {a0 : Act} {i : Nat} {o : Oper} {ns : List Need}
theorem OpOk.quietGM {x : Value} {j t : Nat} {b : Bool} (hg : o.guard = some (j, b)) (hd : (ops[j]?).bind (·.dst) = some t) (hv : ∀ a w, facts plan a0 a w ns → a.eval (.tmp t) = .bool b)
    (h : ∀ a w, G w → facts plan a0 a w ns → (execOp a.eval o).run P w = .ok (.value x) w) :
    OpOk P ops Q G B0 plan a0 i o (.val x) ns := by
  intro a w hG hf
  refine ⟨fun _ => ?_, fun h => by rw [wanted_ofM hg hd (hv a w hf)] at h; cases h⟩
  unfold Oper.wp
  rw [h a w hG hf]
  exact ⟨x, rfl, rfl, .inl (Ext.refl w)⟩
theorem OpOk.callGM {e : Ent} {j t : Nat} {b : Bool} (hg : o.guard = some (j, b)) (hd : (ops[j]?).bind (·.dst) = some t) (hv : ∀ a w, facts plan a0 a w ns → a.eval (.tmp t) = .bool b)
    (h : ∀ a w, G w → facts plan a0 a w ns → ∃ f args, (execOp a.eval o).run P w = .ok (.enter f args) w ∧
    Calls P f args w fun x w' => ∃ v, x = .returned v ∧ Ext w w' ∧ e.E v w.heap.size w'.heap.size a w') :
    OpOk P ops Q G B0 plan a0 i o e ns := by
  intro a w hG hf
  refine ⟨fun _ => ?_, fun h => by rw [wanted_ofM hg hd (hv a w hf)] at h; cases h⟩
  obtain ⟨f, args, h1, h2⟩ := h a w hG hf
  unfold Oper.wp
  rw [h1, Oper.upon_enter]
  refine h2.mono fun x w' hx => ?_
  obtain ⟨v, rfl, hv, he⟩ := hx
  exact ⟨v, rfl, he, .inl hv⟩
end
def Ent.mvd (K : Int) (l : List (Int × Int)) (H : List (List (Int × Int))) : Ent :=
  .rel (fun v lo hi w => ∃ v' vh', v = .agg #[.int .i64 K, v', vh'] ∧ PF.SlR lo hi w v' l ∧ PF.SlHR lo hi w vh' H) (fun _ _ _ _ _ hk ⟨v', vh', h1, h2, h3⟩ => ⟨v', vh', h1, h2.keep hk, h3.keep hk⟩)
end JR
namespace Go.Proofs.YtlchljkmipejdaaGreat
open Go.RowKit PF JR
theorem eqPm (a b : Int) (u : World) : (Op.equalIn 9999 32 (.agg #[.int .i64 a, .int .i64 b]) (.agg #[.int .i64 a, .int .i64 b])).run Tryz.prog u = .ok true u := by
  have h25 : Tryz.prog.underlying 32 = some (.struct #[_, _]) := Tryz.underlying32
  have h2 : Tryz.prog.underlying 2 = some (.int .i64) := Tryz.underlying2
  rw [show (9999 : Nat) = 9997 + 2 from rfl]
  unfold Op.equalIn
  simp [run_underlying h25, go_sem]
theorem eqArrM (a b c d : Int) (u : World) : (Op.equalIn 10000 33 (.agg #[.int .i64 a, .int .i64 b, .int .i64 c, .int .i64 d]) (.agg #[.int .i64 a, .int .i64 b, .int .i64 c, .int .i64 d])).run Tryz.prog u = .ok true u := by
  have h26 : Tryz.prog.underlying 33 = some (.array 2 32) := Tryz.underlying33
  have e1 := fun u => eqPm a b u
  have e2 := fun u => eqPm c d u
  rw [show (10000 : Nat) = 9999 + 1 from rfl]
  unfold Op.equalIn
  simp [run_underlying h26, go_sem, e1, e2, show List.range' 0 2 = [0, 1] from rfl]
theorem far_c (x : Int) (w : World) : Calls Tryz.prog 12 #[.int .i64 x] w fun e w' => e = .returned (.bool (decide (x < -4096) || decide (4096 < x))) ∧ w' = w := by
  by_cases h : x < -4096
  · have h' := decide_eq_true h
    go_enter Tryz.func12, Tryz.ntmps12
    go_wp2
    go_ret
    exact ⟨by rw [h']; rfl, rfl⟩
  · have h' := decide_eq_false h
    go_enter Tryz.func12, Tryz.ntmps12
    go_wp2
    go_ret
    first | exact ⟨rfl, rfl⟩ | exact ⟨by rw [h']; rfl, rfl⟩
theorem mvp_tpt (dx dy : Int) (p : Int × Int) : mvp dx dy p = tpt 0 1 dx dy p := by
  obtain ⟨x, y⟩ := p
  rw [tpt0]
  simp [mvp]
theorem rkt_mv {K : Int} {l : List (Int × Int)} {H : List (List (Int × Int))} (h : VaryS K l H) (dx dy : Int) : rkt K (l.map (mvp dx dy)) = mbx 0 1 dx dy (rkt K l) := by
  have e : l.map (mvp dx dy) = l.map (tpt 0 1 dx dy) := List.map_congr_left fun p _ => mvp_tpt dx dy p
  rcases h.2.2.2.2 with ⟨rfl, hl⟩ | ⟨rfl, X0, Y0, X1, Y1, rfl, g1, g2⟩ | ⟨rfl, hl, -⟩ | ⟨rfl, hl, -⟩
  · obtain ⟨p, rfl⟩ := List.length_eq_one_iff.1 hl
    rw [e]
    exact (mbx_one 0 1 dx dy p).symm
  · show (X0 + dx, Y0 + dy, X1 + dx, Y1 + dy) = mbx 0 1 dx dy (X0, Y0, X1, Y1)
    simp only [mbx, rx0, ry0, rx1, ry1, tpt0, Prod.mk.injEq]
    omega
  · rw [e]
    exact box_turn (by omega) (by omega) l (by omega)
  · rw [e]
    exact box_turn (by omega) (by omega) l (by omega)

set_option maxRecDepth 100000 in
set_option maxHeartbeats 4000000 in
theorem movedBack_c (K : Int) (l : List (Int × Int)) (H : List (List (Int × Int))) (hl0 : l.length ≤ 9223372036854775807) (hH0 : H.length ≤ 9223372036854775807) (hl1 : ∀ h ∈ H, h.length ≤ 9223372036854775807)
    (v vh : Value) (m0 m1 m2 m3 : Int) (w : World) (hv : SlP w v l) (hh : SlH w vh H) :
    Calls Tryz.prog 4 #[.agg #[.int .i64 K, v, vh], .agg #[.int .i64 m0, .int .i64 m1, .int .i64 m2, .int .i64 m3]] w fun e w' => e = .returned (.bool true) ∧ Below w.heap.size w w' := by
  have st0 := ((Blk.nil w).push rfl #[.int .i64 K, v, vh] 27).push (b := w.heap.size + 1) (by simp) #[.int .i64 m0, .int .i64 m1, .int .i64 m2, .int .i64 m3] 39
  have s0 := hv.below st0.hb
  have h0 := hh.below st0.hb
  have c0 := st0.cell 1 rfl 0
  have c1 := st0.cell 1 rfl 1
  have c2 := st0.cell 1 rfl 2
  simp only [List.getElem?_toArray, List.getElem?_cons_zero, List.getElem?_cons_succ] at c0 c1 c2
  clear hv hh
  go_enter Tryz.func4, Tryz.ntmps4
  go_wp2_with (go_at_call 5; refine JR.StopM.out ?_)
  refine ⟨?_⟩
  refine (fits7_c K l H hl0 hH0 hl1 v vh _ s0 h0).mono ?_
  rintro e w1 ⟨rfl, hb⟩
  have st1 := st0.ext hb
  have s1 := s0.below hb
  have h1 := h0.below hb
  clear hb st0 s0 h0 c0 c1 c2
  generalize hfit : (decide (l.length ≤ 2147483647) && (decide (H.length ≤ 2147483647) && H.all fun h => decide (h.length ≤ 2147483647))) = fit
  cases fit with
  | false =>
    clear hfit
    go_wp2
    go_ret
    exact ⟨rfl, st1.hb⟩
  | true =>
    simp only [Bool.and_eq_true, decide_eq_true_eq, List.all_eq_true] at hfit
    obtain ⟨l1, l2, l3⟩ := hfit
    have q0 := st1.cell 0 rfl 0
    have q1 := st1.cell 0 rfl 1
    have q2 := st1.cell 0 rfl 2
    have q3 := st1.cell 0 rfl 3
    have c0 := st1.cell 1 rfl 0
    have c1 := st1.cell 1 rfl 1
    have c2 := st1.cell 1 rfl 2
    simp only [List.getElem?_toArray, List.getElem?_cons_zero, List.getElem?_cons_succ] at q0 q1 q2 q3 c0 c1 c2
    go_wp2
    go_quiet (fail)
    have st2 := st1.drewK nq
    have s2 := s1.below (below_drewN (Below.refl _ _) nq)
    have h2 := h1.below (below_drewN (Below.refl _ _) nq)
    generalize w1.drewN nq = w2 at *
    clear st1 s1 h1 q0 q1 q2 q3 c0 c1 c2
    have c0 := st2.cell 1 rfl 0
    have c1 := st2.cell 1 rfl 1
    have c2 := st2.cell 1 rfl 2
    simp only [List.getElem?_toArray, List.getElem?_cons_zero, List.getElem?_cons_succ] at c0 c1 c2
    have hiv := isVaryS_c K l H l1 l3 v vh _ s2 h2
    clear l1 l2 l3 hl0 hH0 hl1
    go_wp2_with (go_at_call 7; refine JR.StopM.out ?_)
    refine ⟨?_⟩
    refine hiv.mono ?_
    rintro e w3 ⟨ok, rfl, hV, hb⟩
    have st3 := st2.ext hb
    have s3 := s2.below hb
    have h3 := h2.below hb
    clear hb st2 s2 h2 c0 c1 c2 hiv
    cases ok with
    | false =>
      clear hV
      go_wp2_with (go_at_call 8; refine JR.StopM.out ?_)
      refine ⟨?_⟩
      refine (awake_c _).mono ?_
      rintro e wz ⟨rfl, hb⟩
      have stz := st3.ext hb
      go_wp2
      go_ret
      exact ⟨rfl, stz.hb⟩
    | true =>
      replace hV := hV rfl
      go_wp2_with (go_at_call 12; refine JR.StopM.out ?_)
      refine ⟨?_⟩
      refine (far_c m0 _).mono ?_
      rintro e wf ⟨rfl, rfl⟩
      generalize hf0 : (decide (m0 < -4096) || decide (4096 < m0)) = f0
      cases f0 with
      | true =>
        clear hV
        go_wp2_with (go_at_call 8; refine JR.StopM.out ?_)
        refine ⟨?_⟩
        refine (awake_c _).mono ?_
        rintro e wz ⟨rfl, hb⟩
        have stz := st3.ext hb
        go_wp2
        go_ret
        exact ⟨rfl, stz.hb⟩
      | false =>
        have b0 : -4096 ≤ m0 ∧ m0 ≤ 4096 := by
          simp only [Bool.or_eq_false_iff, decide_eq_false_iff_not] at hf0
          omega
        clear hf0
        go_wp2_with (go_at_call 12; refine JR.StopM.out ?_)
        refine ⟨?_⟩
        refine (far_c m1 _).mono ?_
        rintro e wf ⟨rfl, rfl⟩
        generalize hf1 : (decide (m1 < -4096) || decide (4096 < m1)) = f1
        cases f1 with
        | true =>
          clear hV
          go_wp2_with (go_at_call 8; refine JR.StopM.out ?_)
          refine ⟨?_⟩
          refine (awake_c _).mono ?_
          rintro e wz ⟨rfl, hb⟩
          have stz := st3.ext hb
          go_wp2
          go_ret
          exact ⟨rfl, stz.hb⟩
        | false =>
          have b1 : -4096 ≤ m1 ∧ m1 ≤ 4096 := by
            simp only [Bool.or_eq_false_iff, decide_eq_false_iff_not] at hf1
            omega
          clear hf1
          go_wp2_with (go_at_call 12; refine JR.StopM.out ?_)
          refine ⟨?_⟩
          refine (far_c m2 _).mono ?_
          rintro e wf ⟨rfl, rfl⟩
          generalize hf2 : (decide (m2 < -4096) || decide (4096 < m2)) = f2
          cases f2 with
          | true =>
            clear hV
            go_wp2_with (go_at_call 8; refine JR.StopM.out ?_)
            refine ⟨?_⟩
            refine (awake_c _).mono ?_
            rintro e wz ⟨rfl, hb⟩
            have stz := st3.ext hb
            go_wp2
            go_ret
            exact ⟨rfl, stz.hb⟩
          | false =>
            have b2 : -4096 ≤ m2 ∧ m2 ≤ 4096 := by
              simp only [Bool.or_eq_false_iff, decide_eq_false_iff_not] at hf2
              omega
            clear hf2
            go_wp2_with (go_at_call 12; refine JR.StopM.out ?_)
            refine ⟨?_⟩
            refine (far_c m3 _).mono ?_
            rintro e wf ⟨rfl, rfl⟩
            generalize hf3 : (decide (m3 < -4096) || decide (4096 < m3)) = f3
            cases f3 with
            | true =>
              clear hV
              go_wp2_with (go_at_call 8; refine JR.StopM.out ?_)
              refine ⟨?_⟩
              refine (awake_c _).mono ?_
              rintro e wz ⟨rfl, hb⟩
              have stz := st3.ext hb
              go_wp2
              go_ret
              exact ⟨rfl, stz.hb⟩
            | false =>
              have b3 : -4096 ≤ m3 ∧ m3 ≤ 4096 := by
                simp only [Bool.or_eq_false_iff, decide_eq_false_iff_not] at hf3
                omega
              clear hf3
              have hM := hV.shpM
              have c0 := st3.cell 1 rfl 0
              have c1 := st3.cell 1 rfl 1
              have c2 := st3.cell 1 rfl 2
              simp only [List.getElem?_toArray, List.getElem?_cons_zero, List.getElem?_cons_succ] at c0 c1 c2
              have hm1 := moved_c K l H 1024 hM (by omega) m0 m1 (by omega) v vh _ s3 h3
              obtain ⟨L, hL⟩ : ∃ L, l.map (mvp m0 m1) = L := ⟨_, rfl⟩
              obtain ⟨HL, hHL⟩ : ∃ L, H.map (fun x => x.map (mvp m0 m1)) = L := ⟨_, rfl⟩
              have hML := hM.mv (dx := m0) (dy := m1) (d := 4096) (by omega)
              have hbk1 : L.map (mvp (-m0) (-m1)) = l := by rw [← hL, map_mvp, show m0 + -m0 = 0 from by omega, show m1 + -m1 = 0 from by omega, map_zero]
              have hbk2 : HL.map (fun x => x.map (mvp (-m0) (-m1))) = H := by
                rw [← hHL, List.map_map]
                rw [List.map_congr_left (g := id) fun x _ => by simp only [Function.comp]; rw [map_mvp, show m0 + -m0 = 0 from by omega, show m1 + -m1 = 0 from by omega, map_zero]; rfl]
                rw [List.map_id]
              have hbt1 : L.map (mvp m2 m3) = l.map (mvp (m0 + m2) (m1 + m3)) := by rw [← hL, map_mvp]
              have hbt2 : HL.map (fun x => x.map (mvp m2 m3)) = H.map (fun x => x.map (mvp (m0 + m2) (m1 + m3))) := by
                rw [← hHL, List.map_map]
                exact List.map_congr_left fun x _ => by simp only [Function.comp]; rw [map_mvp]
              have hrk := rkt_mv hV m0 m1
              rw [hL] at hm1 hML hrk
              rw [hHL] at hm1 hML
              go_wp2_with (go_at_call 13; refine JR.StopM.out ?_)
              refine ⟨?_⟩
              refine hm1.mono ?_
              rintro e w4 ⟨v1, vh1, rfl, r1, r2, hb⟩
              obtain ⟨A1, cc1, rfl⟩ := r1.len
              obtain ⟨A2, cc2, rfl⟩ : ∃ A c, vh1 = .slice A HL.length c := by
                obtain ⟨A, c, hvv, -⟩ := r2
                exact ⟨A, c, hvv⟩
              have t5 := (Blk.nil w4).push rfl #[.int .i64 K, .slice A1 L.length cc1, .slice A2 HL.length cc2] 27
              have st5 := ((st3.ext hb).ext t5.hb).add (t5.known 0 _ rfl)
              have s5 := (s3.below hb).below t5.hb
              have h5 := (h3.below hb).below t5.hb
              have sL := r1.p.below t5.hb
              have hLh := r2.h.below t5.hb
              clear hb hm1 r1 r2 t5 st3 s3 h3 c0 c1 c2 hL hHL
              have k0 := st5.cell 0 rfl 0
              have k1 := st5.cell 0 rfl 1
              have k2 := st5.cell 0 rfl 2
              have c0 := st5.cell 2 rfl 0
              have c1 := st5.cell 2 rfl 1
              have c2 := st5.cell 2 rfl 2
              simp only [List.getElem?_toArray, List.getElem?_cons_zero, List.getElem?_cons_succ] at k0 k1 k2 c0 c1 c2
              go_wp2
              refine wp_region_K [] [.val (.agg #[.int .i64 K, .slice A1 L.length cc1, .slice A2 HL.length cc2]),
                  .val (.int .i64 m0),
                  .val (.int .i64 (-m0)),
                  .val (.int .i64 m1),
                  .val (.int .i64 (-m1)),
                  .mvd K l H,
                  .val (.agg #[.int .i64 K, v, vh]),
                  .val (.bool true),
                  .val (.bool false),
                  .val (.bool false),
                  .val (.agg #[.int .i64 K, .slice A1 L.length cc1, .slice A2 HL.length cc2]),
                  .val (.int .i64 m2),
                  .val (.int .i64 m3),
                  .mvd K (l.map (mvp (m0 + m2) (m1 + m3))) (H.map (fun x => x.map (mvp (m0 + m2) (m1 + m3)))),
                  .val (.agg #[.int .i64 K, v, vh]),
                  .val (.int .i64 m0),
                  .val (.int .i64 m2),
                  .val (.int .i64 (m0 + m2)),
                  .val (.int .i64 m1),
                  .val (.int .i64 m3),
                  .val (.int .i64 (m1 + m3)),
                  .mvd K (l.map (mvp (m0 + m2) (m1 + m3))) (H.map (fun x => x.map (mvp (m0 + m2) (m1 + m3)))),
                  .val (.bool true),
                  .val (.bool false),
                  .val (.bool false)]
                [[.ini 10], [.ini 5], [.frm 1 57], [.ini 6], [.frm 3 59], [.frm 0 56, .frm 2 58, .frm 4 60], [.ini 2], [.frm 5 61, .frm 6 62], [.frm 7 63], [.frm 8 64], [.ini 10, .frm 9 65], [.ini 7, .frm 9 65], [.ini 8, .frm 9 65], [.frm 10 66, .frm 11 67, .frm 12 68, .frm 9 65], [.ini 2, .frm 9 65], [.ini 5, .frm 9 65], [.ini 7, .frm 9 65], [.frm 15 71, .frm 16 72, .frm 9 65], [.ini 6, .frm 9 65], [.ini 8, .frm 9 65], [.frm 18 74, .frm 19 75, .frm 9 65], [.frm 14 70, .frm 17 73, .frm 20 76, .frm 9 65], [.frm 13 69, .frm 21 77, .frm 9 65], [.frm 22 78, .frm 9 65], [.frm 9 65, .frm 23 79]]
                mixed (by kernel_rfl) (by kernel_rfl) (allPre_of ⟨trivial, trivial, trivial, trivial, trivial, trivial, trivial, trivial, trivial, trivial, trivial, trivial, trivial, trivial, trivial, trivial, trivial, trivial, trivial, trivial, trivial, trivial, trivial, trivial, trivial, trivial⟩)
                ⟨OpOk.quiet rfl ?_,
                  OpOk.quiet rfl ?_,
                  OpOk.quiet rfl ?_,
                  OpOk.quiet rfl ?_,
                  OpOk.quiet rfl ?_,
                  OpOk.call rfl ?_,
                  OpOk.quiet rfl ?_,
                  OpOk.call rfl ?_,
                  OpOk.quiet rfl ?_,
                  OpOk.quiet rfl ?_,
                  OpOk.quietGM rfl (by kernel_rfl) (fun a w hf => by obtain ⟨-, h1, -⟩ := hf; exact h1.elim fun _ h => h.elim fun _ h => h) ?_,
                  OpOk.quietGM rfl (by kernel_rfl) (fun a w hf => by obtain ⟨-, h1, -⟩ := hf; exact h1.elim fun _ h => h.elim fun _ h => h) ?_,
                  OpOk.quietGM rfl (by kernel_rfl) (fun a w hf => by obtain ⟨-, h1, -⟩ := hf; exact h1.elim fun _ h => h.elim fun _ h => h) ?_,
                  OpOk.callGM rfl (by kernel_rfl) (fun a w hf => by obtain ⟨-, -, -, h1, -⟩ := hf; exact h1.elim fun _ h => h.elim fun _ h => h) ?_,
                  OpOk.quietGM rfl (by kernel_rfl) (fun a w hf => by obtain ⟨-, h1, -⟩ := hf; exact h1.elim fun _ h => h.elim fun _ h => h) ?_,
                  OpOk.quietGM rfl (by kernel_rfl) (fun a w hf => by obtain ⟨-, h1, -⟩ := hf; exact h1.elim fun _ h => h.elim fun _ h => h) ?_,
                  OpOk.quietGM rfl (by kernel_rfl) (fun a w hf => by obtain ⟨-, h1, -⟩ := hf; exact h1.elim fun _ h => h.elim fun _ h => h) ?_,
                  OpOk.quietGM rfl (by kernel_rfl) (fun a w hf => by obtain ⟨-, -, h1, -⟩ := hf; exact h1.elim fun _ h => h.elim fun _ h => h) ?_,
                  OpOk.quietGM rfl (by kernel_rfl) (fun a w hf => by obtain ⟨-, h1, -⟩ := hf; exact h1.elim fun _ h => h.elim fun _ h => h) ?_,
                  OpOk.quietGM rfl (by kernel_rfl) (fun a w hf => by obtain ⟨-, h1, -⟩ := hf; exact h1.elim fun _ h => h.elim fun _ h => h) ?_,
                  OpOk.quietGM rfl (by kernel_rfl) (fun a w hf => by obtain ⟨-, -, h1, -⟩ := hf; exact h1.elim fun _ h => h.elim fun _ h => h) ?_,
                  OpOk.callGM rfl (by kernel_rfl) (fun a w hf => by obtain ⟨-, -, -, h1, -⟩ := hf; exact h1.elim fun _ h => h.elim fun _ h => h) ?_,
                  OpOk.callGM rfl (by kernel_rfl) (fun a w hf => by obtain ⟨-, -, h1, -⟩ := hf; exact h1.elim fun _ h => h.elim fun _ h => h) ?_,
                  OpOk.quietGM rfl (by kernel_rfl) (fun a w hf => by obtain ⟨-, h1, -⟩ := hf; exact h1.elim fun _ h => h.elim fun _ h => h) ?_,
                  OpOk.quiet rfl ?_, trivial⟩ ?_
              · intro a u hG hf
                simp [facts, Need.fact, Act.eval] at hf
                have hc := True.intro
                have y0 := (hG.cell (p := ⟨w4.heap.size, 0, none⟩) (st5.lt 0 rfl) (by simp)).trans k0
                have y1 := (hG.cell (p := ⟨w4.heap.size, 1, none⟩) (st5.lt 0 rfl) (by simp)).trans k1
                have y2 := (hG.cell (p := ⟨w4.heap.size, 2, none⟩) (st5.lt 0 rfl) (by simp)).trans k2
                have z0 := (hG.cell (p := ⟨w.heap.size, 0, none⟩) (st5.lt 2 rfl) (by simp)).trans c0
                have z1 := (hG.cell (p := ⟨w.heap.size, 1, none⟩) (st5.lt 2 rfl) (by simp)).trans c1
                have z2 := (hG.cell (p := ⟨w.heap.size, 2, none⟩) (st5.lt 2 rfl) (by simp)).trans c2

                go_simp
              · intro a u _ hf
                simp [facts, Need.fact, Act.eval] at hf
                go_simp
              · intro a u _ hf
                simp [facts, Need.fact, Ent.val, Act.eval] at hf
                go_simp
                rw [IntKind.wrap_i64]; omega
              · intro a u _ hf
                simp [facts, Need.fact, Act.eval] at hf
                go_simp
              · intro a u _ hf
                simp [facts, Need.fact, Ent.val, Act.eval] at hf
                go_simp
                rw [IntKind.wrap_i64]; omega
              · intro a u hG hf
                simp [facts, Need.fact, Ent.val, Act.eval] at hf
                have hG1 := Keep.below hG
                have hmc := moved_c K L HL (1024 + 4096) hML (by omega) (-m0) (-m1) (by omega) _ _ u (sL.below hG1) (hLh.below hG1)
                rw [hbk1, hbk2] at hmc
                refine ⟨_, _, by go_simp, hmc.mono ?_⟩
                rintro e w' ⟨v', vh', rfl, r1, r2, hb⟩
                exact ⟨_, rfl, hb, v', vh', rfl, r1, r2⟩
              · intro a u hG hf
                simp [facts, Need.fact, Act.eval] at hf
                have hc := True.intro
                have y0 := (hG.cell (p := ⟨w4.heap.size, 0, none⟩) (st5.lt 0 rfl) (by simp)).trans k0
                have y1 := (hG.cell (p := ⟨w4.heap.size, 1, none⟩) (st5.lt 0 rfl) (by simp)).trans k1
                have y2 := (hG.cell (p := ⟨w4.heap.size, 2, none⟩) (st5.lt 0 rfl) (by simp)).trans k2
                have z0 := (hG.cell (p := ⟨w.heap.size, 0, none⟩) (st5.lt 2 rfl) (by simp)).trans c0
                have z1 := (hG.cell (p := ⟨w.heap.size, 1, none⟩) (st5.lt 2 rfl) (by simp)).trans c1
                have z2 := (hG.cell (p := ⟨w.heap.size, 2, none⟩) (st5.lt 2 rfl) (by simp)).trans c2

                go_simp
              · intro a u hG hf
                obtain ⟨⟨_, _, v', vh', f1, r1, r2⟩, ⟨_, _, f2⟩, -⟩ := hf
                have f2' : a.eval (.tmp 62) = .agg #[.int .i64 K, v, vh] := f2
                have hG1 := Keep.below hG
                have hvs := varySame_c K l H (by have := hM.2.1; omega) (by have := hM.2.2.2.1; omega) (fun x hx => by have := (hM.2.2.2.2.1 x hx).2.1; omega) v' vh' v vh u r1.p r2.h (s5.below hG1) (h5.below hG1)
                simp [Act.eval] at f1 f2'
                refine ⟨_, _, by go_simp, hvs.mono ?_⟩
                rintro e w' ⟨rfl, hb⟩
                exact ⟨_, rfl, hb, rfl⟩
              · intro a u _ hf
                simp [facts, Need.fact, Ent.val, Act.eval] at hf
                go_simp
              · intro a u _ hf
                simp [facts, Need.fact, Ent.val, Act.eval] at hf
                go_simp
              · intro a u hG hf
                simp [facts, Need.fact, Ent.val, Act.eval] at hf
                have hc := True.intro
                have y0 := (hG.cell (p := ⟨w4.heap.size, 0, none⟩) (st5.lt 0 rfl) (by simp)).trans k0
                have y1 := (hG.cell (p := ⟨w4.heap.size, 1, none⟩) (st5.lt 0 rfl) (by simp)).trans k1
                have y2 := (hG.cell (p := ⟨w4.heap.size, 2, none⟩) (st5.lt 0 rfl) (by simp)).trans k2
                have z0 := (hG.cell (p := ⟨w.heap.size, 0, none⟩) (st5.lt 2 rfl) (by simp)).trans c0
                have z1 := (hG.cell (p := ⟨w.heap.size, 1, none⟩) (st5.lt 2 rfl) (by simp)).trans c1
                have z2 := (hG.cell (p := ⟨w.heap.size, 2, none⟩) (st5.lt 2 rfl) (by simp)).trans c2

                go_simp
              · intro a u hG hf
                simp [facts, Need.fact, Ent.val, Act.eval] at hf
                go_simp
              · intro a u hG hf
                simp [facts, Need.fact, Ent.val, Act.eval] at hf
                go_simp
              · intro a u hG hf
                simp [facts, Need.fact, Ent.val, Act.eval] at hf
                have hG1 := Keep.below hG
                have hmc := moved_c K L HL (1024 + 4096) hML (by omega) m2 m3 (by omega) _ _ u (sL.below hG1) (hLh.below hG1)
                rw [hbt1, hbt2] at hmc
                refine ⟨_, _, by go_simp, hmc.mono ?_⟩
                rintro e w' ⟨v', vh', rfl, r1, r2, hb⟩
                exact ⟨_, rfl, hb, v', vh', rfl, r1, r2⟩
              · intro a u hG hf
                simp [facts, Need.fact, Ent.val, Act.eval] at hf
                have hc := True.intro
                have y0 := (hG.cell (p := ⟨w4.heap.size, 0, none⟩) (st5.lt 0 rfl) (by simp)).trans k0
                have y1 := (hG.cell (p := ⟨w4.heap.size, 1, none⟩) (st5.lt 0 rfl) (by simp)).trans k1
                have y2 := (hG.cell (p := ⟨w4.heap.size, 2, none⟩) (st5.lt 0 rfl) (by simp)).trans k2
                have z0 := (hG.cell (p := ⟨w.heap.size, 0, none⟩) (st5.lt 2 rfl) (by simp)).trans c0
                have z1 := (hG.cell (p := ⟨w.heap.size, 1, none⟩) (st5.lt 2 rfl) (by simp)).trans c1
                have z2 := (hG.cell (p := ⟨w.heap.size, 2, none⟩) (st5.lt 2 rfl) (by simp)).trans c2

                go_simp
              · intro a u hG hf
                simp [facts, Need.fact, Ent.val, Act.eval] at hf
                go_simp
              · intro a u hG hf
                simp [facts, Need.fact, Ent.val, Act.eval] at hf
                go_simp
              · intro a u hG hf
                simp [facts, Need.fact, Ent.val, Act.eval] at hf
                go_simp
                rw [IntKind.wrap_i64]; omega
              · intro a u hG hf
                simp [facts, Need.fact, Ent.val, Act.eval] at hf
                go_simp
              · intro a u hG hf
                simp [facts, Need.fact, Ent.val, Act.eval] at hf
                go_simp
              · intro a u hG hf
                simp [facts, Need.fact, Ent.val, Act.eval] at hf
                go_simp
                rw [IntKind.wrap_i64]; omega
              · intro a u hG hf
                simp [facts, Need.fact, Ent.val, Act.eval] at hf
                have hG1 := Keep.below hG
                have hmc := moved_c K l H 1024 hM (by omega) (m0 + m2) (m1 + m3) (by omega) v vh u (s5.below hG1) (h5.below hG1)
                refine ⟨_, _, by go_simp, hmc.mono ?_⟩
                rintro e w' ⟨v', vh', rfl, r1, r2, hb⟩
                exact ⟨_, rfl, hb, v', vh', rfl, r1, r2⟩
              · intro a u hG hf
                obtain ⟨⟨_, _, v', vh', f1, r1, r2⟩, ⟨_, _, v'', vh'', f2, r3, r4⟩, -⟩ := hf
                have hM2 := hM.mv (dx := m0 + m2) (dy := m1 + m3) (d := 8192) (by omega)
                have hvs := varySame_c K (l.map (mvp (m0 + m2) (m1 + m3))) (H.map (fun x => x.map (mvp (m0 + m2) (m1 + m3)))) (by have := hM2.2.1; omega) (by have := hM2.2.2.2.1; omega) (fun x hx => by have := (hM2.2.2.2.2.1 x hx).2.1; omega) v' vh' v'' vh'' u r1.p r2.h r3.p r4.h
                simp [Act.eval] at f1 f2
                refine ⟨_, _, by go_simp, hvs.mono ?_⟩
                rintro e w' ⟨rfl, hb⟩
                exact ⟨_, rfl, hb, rfl⟩
              · intro a u _ hf
                simp [facts, Need.fact, Ent.val, Act.eval] at hf
                go_simp
              · intro a u _ hf
                simp [facts, Need.fact, Ent.val, Act.eval] at hf
                go_simp
              intro u lw hw wc hKp hE hI hD
              simp [allE, Ent.mvd, Ent.val] at hE
              obtain ⟨u0, u1, -, u3, -, -, u6, u7, u8, u9, u10, u11, u12, -, u14, u15, u16, u17, u18, u19, u20, -, u22, u23, u24⟩ := hE
              simp only [allPut, Act.put, u0, u1, u3, u6, u9]
              clear u0 u1 u3 u6 u9

              simp only [u8, u23, u24]
              have st6 := st5.keep hKp (fun i x _ => by simp) (fun x hx => by simp at hx)
              have hbk := Keep.below hKp
              have s6 := s5.below hbk
              have h6 := h5.below hbk
              have sM := sL.below hbk
              have hMh := hLh.below hbk
              clear hKp hI hD u8 u23 u24 k0 k1 k2 c0 c1 c2 s5 h5 sL hLh st5 hbk
              try simp only [List.setIfInBounds_toArray, List.set_cons_zero, List.set_cons_succ]
              have c0 := st6.cell 2 rfl 0
              have c1 := st6.cell 2 rfl 1
              have c2 := st6.cell 2 rfl 2
              simp only [List.getElem?_toArray, List.getElem?_cons_zero, List.getElem?_cons_succ] at c0 c1 c2
              obtain ⟨r, hr⟩ : ∃ r, rkt K l = r := ⟨_, rfl⟩
              have hrm := rkt_m (K := K) (okP_m hV.1)
              have ask1 := askAll_c K l H (hM.ok (by omega)) v vh wc s6 h6
              have ask2 := fun (x : World) (hx : Below wc.heap.size wc x) => askAll_c K L HL (hML.ok (by omega)) (.slice A1 L.length cc1) (.slice A2 HL.length cc2) x (sM.below hx) (hMh.below hx)
              rw [hr] at ask1 hrm hrk
              have vrc := fun u => varyRect_c 0 1 m0 m1 r.1 r.2.1 r.2.2.1 r.2.2.2 (by omega) (by omega) (by omega) (by omega) (by omega) u
              simp only [hrk, mbx] at ask2
              clear hr hrk hV hM hML hrm s6 h6 sM hMh hbk1 hbk2 hbt1 hbt2
              generalize rx0 0 1 m0 m1 r.1 r.2.1 r.2.2.1 r.2.2.2 = e0 at *
              generalize ry0 0 1 m0 m1 r.1 r.2.1 r.2.2.1 r.2.2.2 = e1 at *
              generalize rx1 0 1 m0 m1 r.1 r.2.1 r.2.2.1 r.2.2.2 = e2 at *
              generalize ry1 0 1 m0 m1 r.1 r.2.1 r.2.2.1 r.2.2.2 = e3 at *
              obtain ⟨r1, r2, r3, r4⟩ := r
              simp only at ask1 vrc
              go_wp2_with (go_at_call 9; refine JR.StopM.out ?_)
              refine ⟨?_⟩
              refine ask1.mono ?_
              rintro e w7 ⟨⟨val, rfl⟩, hb⟩
              have t8 := (Blk.nil w7).push rfl #[.int .i64 r1, .int .i64 r2, .int .i64 r3, .int .i64 r4] 33
              have st8 := ((st6.ext hb).ext t8.hb).add (t8.known 0 _ rfl)
              have hb8 := hb.trans (t8.hb.mono hb.size)
              clear hb t8 st6 ask1 c0 c1 c2
              have k0 := st8.cell 1 rfl 0
              have k1 := st8.cell 1 rfl 1
              have k2 := st8.cell 1 rfl 2
              simp only [List.getElem?_toArray, List.getElem?_cons_zero, List.getElem?_cons_succ] at k0 k1 k2
              have ask3 := ask2 _ hb8
              clear ask2 hb8
              go_wp2_with (go_at_call 9; refine JR.StopM.out ?_)
              refine ⟨?_⟩
              refine ask3.mono ?_
              rintro e w9 ⟨⟨val2, rfl⟩, hb⟩
              have t9 := (Blk.nil w9).push rfl #[.int .i64 e0, .int .i64 e1, .int .i64 e2, .int .i64 e3] 33
              have st9 := ((st8.ext hb).ext t9.hb).add (t9.known 0 _ rfl)
              clear hb t9 st8 ask3 k0 k1 k2
              have d0 := st9.cell 0 rfl 0
              have d1 := st9.cell 0 rfl 1
              have d2 := st9.cell 0 rfl 2
              have d3 := st9.cell 0 rfl 3
              have p0 := st9.cell 1 rfl 0
              have p1 := st9.cell 1 rfl 1
              have p2 := st9.cell 1 rfl 2
              have p3 := st9.cell 1 rfl 3
              simp only [List.getElem?_toArray, List.getElem?_cons_zero, List.getElem?_cons_succ] at d0 d1 d2 d3 p0 p1 p2 p3
              have hea := eqArrM
              go_wp2
              refine wp_region_K [] [.val (.agg #[.int .i64 e0, .int .i64 e1, .int .i64 e2, .int .i64 e3]),
                  .val (.int .i64 m0),
                  .val (.int .i64 m1),
                  .val (.agg #[.int .u8 0, .int .i64 1, .int .i64 m0, .int .i64 m1]),
                  .val (.agg #[.int .i64 r1, .int .i64 r2, .int .i64 r3, .int .i64 r4]),
                  .val (.agg #[.int .i64 e0, .int .i64 e1, .int .i64 e2, .int .i64 e3]),
                  .val (.bool true),
                  .val (.bool true),
                  .val (.bool true),
                  .val (.bool true),
                  .val (.bool true)]
                [[.ini 14], [.ini 5], [.ini 6], [.frm 1 94, .frm 2 95], [.ini 11], [.frm 3 96, .frm 4 97], [.frm 0 93, .frm 5 98], [.frm 6 99], [.frm 7 100], [.frm 7 100, .frm 8 101], [.frm 9 102]]
                mixed (by kernel_rfl) (by kernel_rfl) (allPre_of ⟨trivial, trivial, trivial, trivial, trivial, trivial, trivial, trivial, trivial, trivial, trivial, trivial⟩)
                ⟨OpOk.quiet rfl ?_,
                  OpOk.quiet rfl ?_,
                  OpOk.quiet rfl ?_,
                  OpOk.quiet rfl ?_,
                  OpOk.quiet rfl ?_,
                  OpOk.call rfl ?_,
                  OpOk.quiet rfl ?_,
                  OpOk.quiet rfl ?_,
                  OpOk.callGM rfl (by kernel_rfl) (fun a w hf => by obtain ⟨h1, -⟩ := hf; exact h1.elim fun _ h => h.elim fun _ h => h) ?_,
                  OpOk.quiet rfl ?_,
                  OpOk.quiet rfl ?_, trivial⟩ ?_
              · intro a u hG hf
                simp [facts, Need.fact, Act.eval] at hf
                have hc := True.intro
                have y0 := (hG.cell (p := ⟨w9.heap.size, 0, none⟩) (st9.lt 0 rfl) (by simp)).trans d0
                have y1 := (hG.cell (p := ⟨w9.heap.size, 1, none⟩) (st9.lt 0 rfl) (by simp)).trans d1
                have y2 := (hG.cell (p := ⟨w9.heap.size, 2, none⟩) (st9.lt 0 rfl) (by simp)).trans d2
                have y3 := (hG.cell (p := ⟨w9.heap.size, 3, none⟩) (st9.lt 0 rfl) (by simp)).trans d3
                have z0 := (hG.cell (p := ⟨w7.heap.size, 0, none⟩) (st9.lt 1 rfl) (by simp)).trans p0
                have z1 := (hG.cell (p := ⟨w7.heap.size, 1, none⟩) (st9.lt 1 rfl) (by simp)).trans p1
                have z2 := (hG.cell (p := ⟨w7.heap.size, 2, none⟩) (st9.lt 1 rfl) (by simp)).trans p2
                have z3 := (hG.cell (p := ⟨w7.heap.size, 3, none⟩) (st9.lt 1 rfl) (by simp)).trans p3

                go_simp
              · intro a u _ hf
                simp [facts, Need.fact, Act.eval] at hf
                go_simp
              · intro a u _ hf
                simp [facts, Need.fact, Act.eval] at hf
                go_simp
              · intro a u _ hf
                simp [facts, Need.fact, Ent.val, Act.eval] at hf
                go_simp
              · intro a u hG hf
                simp [facts, Need.fact, Act.eval] at hf
                have hc := True.intro
                have y0 := (hG.cell (p := ⟨w9.heap.size, 0, none⟩) (st9.lt 0 rfl) (by simp)).trans d0
                have y1 := (hG.cell (p := ⟨w9.heap.size, 1, none⟩) (st9.lt 0 rfl) (by simp)).trans d1
                have y2 := (hG.cell (p := ⟨w9.heap.size, 2, none⟩) (st9.lt 0 rfl) (by simp)).trans d2
                have y3 := (hG.cell (p := ⟨w9.heap.size, 3, none⟩) (st9.lt 0 rfl) (by simp)).trans d3
                have z0 := (hG.cell (p := ⟨w7.heap.size, 0, none⟩) (st9.lt 1 rfl) (by simp)).trans p0
                have z1 := (hG.cell (p := ⟨w7.heap.size, 1, none⟩) (st9.lt 1 rfl) (by simp)).trans p1
                have z2 := (hG.cell (p := ⟨w7.heap.size, 2, none⟩) (st9.lt 1 rfl) (by simp)).trans p2
                have z3 := (hG.cell (p := ⟨w7.heap.size, 3, none⟩) (st9.lt 1 rfl) (by simp)).trans p3

                go_simp
              · intro a u _ hf
                simp [facts, Need.fact, Ent.val, Act.eval] at hf
                refine ⟨_, _, by go_simp, (vrc _).mono ?_⟩
                rintro e w' ⟨rfl, hb⟩
                exact ⟨_, rfl, hb, rfl⟩
              · intro a u _ hf
                simp [facts, Need.fact, Ent.val, Act.eval] at hf
                go_simp
              · intro a u _ hf
                simp [facts, Need.fact, Ent.val, Act.eval] at hf
                go_simp
              · intro a u _ _
                refine ⟨_, _, by go_simp, (awake_c _).mono ?_⟩
                rintro e w' ⟨rfl, hb⟩
                exact ⟨_, rfl, hb, rfl⟩
              · intro a u _ hf
                simp [facts, Need.fact, Ent.val, Act.eval] at hf
                go_simp
              · intro a u _ hf
                simp [facts, Need.fact, Ent.val, Act.eval] at hf
                go_simp
              intro u lw hw wcc hKp hE hI hD
              simp [allE, Ent.val] at hE
              obtain ⟨u0, u1, u2, u3, u4, u5, u6, u7, u8, u9, u10⟩ := hE
              simp only [allPut, Act.put, u8, u0, u1, u2, u3, u4, u5, u6, u7, u9, u10]
              clear u0 u1 u2 u3 u4 u5 u6 u7 u9 u10

              have stF := st9.keep hKp (fun i x _ => by simp) (fun x hx => by simp at hx)
              clear hKp hI hD st9 d0 d1 d2 d3 p0 p1 p2 p3 hea vrc
              try simp only [List.setIfInBounds_toArray, List.set_cons_zero, List.set_cons_succ]
              go_wp2
              go_ret
              exact ⟨rfl, stF.hb⟩
end Go.Proofs.YtlchljkmipejdaaGreat
