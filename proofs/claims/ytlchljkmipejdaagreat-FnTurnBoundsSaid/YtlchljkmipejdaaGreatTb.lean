import Derived.Test.YtlchljkmipejdaaGreatAa
import Derived.Test.YtlchljkmipejdaaGreatAwake
set_option linter.unusedSimpArgs false
set_option linter.unusedVariables false
namespace JR
open Go Go.RowKit
theorem wanted_of {ops : Array Oper} {o : Oper} {a : Act} {j t : Nat} {b : Bool} (hg : o.guard = some (j, b)) (hd : (ops[j]?).bind (·.dst) = some t) (hv : a.eval (.tmp t) = .bool b) : Region.wanted o (yielded ops a.tmps) = true := by
  have h : a.tmps[t]? = some (.bool b) := by
    cases hh : a.tmps[t]? with
    | none => simp [Act.eval, hh, undef] at hv
    | some x => simp [Act.eval, hh] at hv; rw [hv]
  have e : ((ops[j]?).bind (·.dst)).bind (a.tmps[·]?) = some (.bool b) := by simp only [hd]; exact h
  have y : yielded ops a.tmps j = some b := by unfold yielded; simp only [e]
  unfold Region.wanted
  simp [hg, y]
section
variable {P : Program} {ops : Array Oper} {Q : Exit → Act → World → Prop} {G : World → Prop} {B0 : Nat} {plan : List Ent} {a0 : Act} {i : Nat} {o : Oper} {ns : List Need}
theorem OpOk.quietG {x : Value} {j t : Nat} {b : Bool} (hg : o.guard = some (j, b)) (hd : (ops[j]?).bind (·.dst) = some t) (hv : ∀ a w, facts plan a0 a w ns → a.eval (.tmp t) = .bool b)
    (h : ∀ a w, G w → facts plan a0 a w ns → (execOp a.eval o).run P w = .ok (.value x) w) :
    OpOk P ops Q G B0 plan a0 i o (.val x) ns := by
  intro a w hG hf
  refine ⟨fun _ => ?_, fun h => by rw [wanted_of hg hd (hv a w hf)] at h; cases h⟩
  unfold Oper.wp
  rw [h a w hG hf]
  exact ⟨x, rfl, rfl, .inl (Ext.refl w)⟩
theorem OpOk.callG {e : Ent} {j t : Nat} {b : Bool} (hg : o.guard = some (j, b)) (hd : (ops[j]?).bind (·.dst) = some t) (hv : ∀ a w, facts plan a0 a w ns → a.eval (.tmp t) = .bool b)
    (h : ∀ a w, G w → facts plan a0 a w ns → ∃ f args, (execOp a.eval o).run P w = .ok (.enter f args) w ∧
    Calls P f args w fun x w' => ∃ v, x = .returned v ∧ Ext w w' ∧ e.E v w.heap.size w'.heap.size a w') :
    OpOk P ops Q G B0 plan a0 i o e ns := by
  intro a w hG hf
  refine ⟨fun _ => ?_, fun h => by rw [wanted_of hg hd (hv a w hf)] at h; cases h⟩
  obtain ⟨f, args, h1, h2⟩ := h a w hG hf
  unfold Oper.wp
  rw [h1, Oper.upon_enter]
  refine h2.mono fun x w' hx => ?_
  obtain ⟨v, rfl, hv, he⟩ := hx
  exact ⟨v, rfl, he, .inl hv⟩
end
end JR
namespace Go.Proofs.YtlchljkmipejdaaGreat
open Go.RowKit PF JR
theorem eqP2 (a b : Int) (d : Nat) (u : World) : (Op.equalIn (d + 2) 32 (.agg #[.int .i64 a, .int .i64 b]) (.agg #[.int .i64 a, .int .i64 b])).run Tryz.prog u = .ok true u := by
  have h25 : Tryz.prog.underlying 32 = some (.struct #[_, _]) := Tryz.underlying32
  have h2 : Tryz.prog.underlying 2 = some (.int .i64) := Tryz.underlying2
  unfold Op.equalIn
  simp [run_underlying h25, go_sem]
theorem eqArr2 (a b c d : Int) (u : World) : (Op.equalIn 10000 33 (.agg #[.int .i64 a, .int .i64 b, .int .i64 c, .int .i64 d]) (.agg #[.int .i64 a, .int .i64 b, .int .i64 c, .int .i64 d])).run Tryz.prog u = .ok true u := by
  have h26 : Tryz.prog.underlying 33 = some (.array 2 32) := Tryz.underlying33
  have e1 := fun u => eqP2 a b 9997 u
  have e2 := fun u => eqP2 c d 9997 u
  rw [show (10000 : Nat) = 9999 + 1 from rfl]
  unfold Op.equalIn
  simp only [Nat.reduceAdd] at e1 e2
  simp [run_underlying h26, go_sem, e1, e2, show List.range' 0 2 = [0, 1] from rfl]

set_option maxRecDepth 100000 in
set_option maxHeartbeats 2000000 in
theorem turnBounds_c (KK S DX DY : Int) (hK0 : 0 ≤ KK) (K : Int) (l : List (Int × Int)) (H : List (List (Int × Int))) (hl0 : l.length ≤ 9223372036854775807) (hH0 : H.length ≤ 9223372036854775807) (hl1 : ∀ h ∈ H, h.length ≤ 9223372036854775807)
    (v vh : Value) (w : World) (hv : SlP w v l) (hh : SlH w vh H) :
    Calls Tryz.prog 3 #[.agg #[.int .u8 KK, .int .i64 S, .int .i64 DX, .int .i64 DY], .agg #[.int .i64 K, v, vh]] w fun e w' => e = .returned (.bool true) ∧ Below w.heap.size w w' := by
  have st0 := ((Blk.nil w).push rfl #[.int .u8 KK, .int .i64 S, .int .i64 DX, .int .i64 DY] 23).push (b := w.heap.size + 1) (by simp) #[.int .i64 K, v, vh] 27
  have s0 := hv.below st0.hb
  have h0 := hh.below st0.hb
  have c0 := st0.cell 0 rfl 0
  have c1 := st0.cell 0 rfl 1
  have c2 := st0.cell 0 rfl 2
  simp only [List.getElem?_toArray, List.getElem?_cons_zero, List.getElem?_cons_succ] at c0 c1 c2
  clear hv hh
  go_enter Tryz.func3, Tryz.ntmps3
  go_wp2_with (go_at_call 5; refine JR.StopM.out ?_)
  refine ⟨?_⟩
  refine (fits7_c K l H hl0 hH0 hl1 v vh _ s0 h0).mono ?_
  rintro e w1 ⟨rfl, hb⟩
  have st1 := st0.ext hb
  have s1 := s0.below hb
  have h1 := h0.below hb
  clear hb st0 s0 h0 c0 c1 c2
  generalize hfit : (decide (l.length ≤ 2147483647) && (decide (H.length ≤ 2147483647) && H.all fun h => decide (h.length ≤ 2147483647))) = fit
  cases fit with
  | false =>
    clear hfit
    go_wp2
    go_ret
    exact ⟨rfl, st1.hb⟩
  | true =>
    simp only [Bool.and_eq_true, decide_eq_true_eq, List.all_eq_true] at hfit
    obtain ⟨l1, l2, l3⟩ := hfit
    have q0 := st1.cell 1 rfl 0
    have q1 := st1.cell 1 rfl 1
    have q2 := st1.cell 1 rfl 2
    have q3 := st1.cell 1 rfl 3
    simp only [List.getElem?_toArray, List.getElem?_cons_zero, List.getElem?_cons_succ] at q0 q1 q2 q3
    go_wp2_with (go_at_call 6; refine JR.StopM.out ?_)
    refine ⟨?_⟩
    refine (ivt_c KK S DX DY _).mono ?_
    rintro e w2 ⟨rfl, hb⟩
    have st2 := st1.ext hb
    have s2 := s1.below hb
    have h2 := h1.below hb
    clear hb st1 s1 h1 q0 q1 q2 q3
    generalize hivt : decide (KK ≤ 7 ∧ 1 ≤ S ∧ S ≤ 8 ∧ -4096 ≤ DX ∧ DX ≤ 4096 ∧ -4096 ≤ DY ∧ DY ≤ 4096) = ivt
    cases ivt with
    | false =>
      clear hivt l3
      go_wp2_with (go_at_call 8; refine JR.StopM.out ?_)
      refine ⟨?_⟩
      refine (awake_c _).mono ?_
      rintro e w3 ⟨rfl, hb⟩
      have st3 := st2.ext hb
      go_wp2
      go_ret
      exact ⟨rfl, st3.hb⟩
    | true =>
      have hivt := of_decide_eq_true hivt
      have b0 : 0 ≤ KK ∧ KK ≤ 7 := ⟨hK0, hivt.1⟩
      have b2 : 1 ≤ S ∧ S ≤ 8 := ⟨hivt.2.1, hivt.2.2.1⟩
      have b3 : -65536 ≤ DX ∧ DX ≤ 65536 ∧ -65536 ≤ DY ∧ DY ≤ 65536 := by omega
      clear hivt
      have c0 := st2.cell 0 rfl 0
      have c1 := st2.cell 0 rfl 1
      have c2 := st2.cell 0 rfl 2
      simp only [List.getElem?_toArray, List.getElem?_cons_zero, List.getElem?_cons_succ] at c0 c1 c2
      have hiv := isVaryS_c K l H l1 l3 v vh _ s2 h2
      clear l1 l2 l3
      go_wp2_with (go_at_call 7; refine JR.StopM.out ?_)
      refine ⟨?_⟩
      refine hiv.mono ?_
      rintro e w3 ⟨ok, rfl, hV, hb⟩
      have st3 := st2.ext hb
      have s3 := s2.below hb
      have h3 := h2.below hb
      clear hb st2 s2 h2 c0 c1 c2 hiv
      cases ok with
      | false =>
        clear hV
        go_wp2_with (go_at_call 8; refine JR.StopM.out ?_)
        refine ⟨?_⟩
        refine (awake_c _).mono ?_
        rintro e w4 ⟨rfl, hb⟩
        have st4 := st3.ext hb
        go_wp2
        go_ret
        exact ⟨rfl, st4.hb⟩
      | true =>
        have hV := hV rfl
        obtain ⟨hT, hE⟩ := turned_ok b0 b2 b3 hV
        have hA := shpOk_of hV
        have hrm := rkt_m (K := K) (okP_m hV.1)
        have c0 := st3.cell 0 rfl 0
        have c1 := st3.cell 0 rfl 1
        have c2 := st3.cell 0 rfl 2
        simp only [List.getElem?_toArray, List.getElem?_cons_zero, List.getElem?_cons_succ] at c0 c1 c2
        obtain ⟨r, hr⟩ : ∃ r, rkt K l = r := ⟨_, rfl⟩
        have ask1 := askAll_c K l H hA v vh w3 s3 h3
        rw [hr] at ask1 hrm hE
        have vsh := fun u hu hu' => varyShape_c KK S DX DY b0 b2 b3 K l H hV v vh u hu hu'
        have vrc := fun u => varyRect_c KK S DX DY r.1 r.2.1 r.2.2.1 r.2.2.2 b0 b2 b3 (by omega) (by omega) u
        have ask2 := askAll_c K _ _ hT
        rw [hE] at ask2
        simp only [mbx] at ask2
        clear hr hE hT hA hV hrm b0 b2 b3 hl0 hH0 hl1 hK0
        generalize rx0 KK S DX DY r.1 r.2.1 r.2.2.1 r.2.2.2 = e0 at *
        generalize ry0 KK S DX DY r.1 r.2.1 r.2.2.1 r.2.2.2 = e1 at *
        generalize rx1 KK S DX DY r.1 r.2.1 r.2.2.1 r.2.2.2 = e2 at *
        generalize ry1 KK S DX DY r.1 r.2.1 r.2.2.1 r.2.2.2 = e3 at *
        generalize vsl KK S DX DY K l = l2 at *
        generalize H.map (fun x => x.map (tpt KK S DX DY)) = H2 at *
        obtain ⟨r1, r2, r3, r4⟩ := r
        simp only at ask1 vrc
        go_wp2_with (go_at_call 9; refine JR.StopM.out ?_)
        refine ⟨?_⟩
        refine ask1.mono ?_
        rintro e w4 ⟨⟨val, rfl⟩, hb⟩
        have st4 := st3.ext hb
        have s4 := s3.below hb
        have h4 := h3.below hb
        clear hb st3 s3 h3 ask1 c0 c1 c2
        have c0 := st4.cell 0 rfl 0
        have c1 := st4.cell 0 rfl 1
        have c2 := st4.cell 0 rfl 2
        have q0 := st4.cell 1 rfl 0
        have q1 := st4.cell 1 rfl 1
        have q2 := st4.cell 1 rfl 2
        have q3 := st4.cell 1 rfl 3
        simp only [List.getElem?_toArray, List.getElem?_cons_zero, List.getElem?_cons_succ] at c0 c1 c2 q0 q1 q2 q3
        have g0 := st4.lt 1 rfl
        have g1 := st4.lt 0 rfl
        have t5 := (Blk.nil w4).push rfl #[.int .i64 r1, .int .i64 r2, .int .i64 r3, .int .i64 r4] 33
        have s5 := s4.below t5.hb
        have h5 := h4.below t5.hb
        have st5 := (st4.ext t5.hb).add (t5.known 0 _ rfl)
        have hv5 := vsh _ s5 h5
        clear t5 s4 h4 s5 h5 vsh
        go_wp2_with (go_at_call 10; refine JR.StopM.out ?_)
        refine ⟨?_⟩
        refine hv5.mono ?_
        rintro e w6 ⟨v', vh', rfl, s6, h6, hb⟩
        have st6 := st5.ext hb
        have ask3 := ask2 v' vh' w6 s6 h6
        clear hb st5 hv5 ask2 s6 h6 c0 c1 c2 q0 q1 q2 q3 g0 g1 st4
        go_wp2_with (go_at_call 9; refine JR.StopM.out ?_)
        refine ⟨?_⟩
        refine ask3.mono ?_
        rintro e w7 ⟨⟨val2, rfl⟩, hb⟩
        have st7 := st6.ext hb
        clear hb ask3 st6
        have t8 := (Blk.nil w7).push rfl #[.int .i64 e0, .int .i64 e1, .int .i64 e2, .int .i64 e3] 33
        have st8 := (st7.ext t8.hb).add (t8.known 0 _ rfl)
        have hlt7 := st7.lt 0 rfl
        clear t8 st7
        have d0 := st8.cell 0 rfl 0
        have d1 := st8.cell 0 rfl 1
        have d2 := st8.cell 0 rfl 2
        have d3 := st8.cell 0 rfl 3
        have p0 := st8.cell 1 rfl 0
        have p1 := st8.cell 1 rfl 1
        have p2 := st8.cell 1 rfl 2
        have p3 := st8.cell 1 rfl 3
        have q0 := st8.cell 3 rfl 0
        have q1 := st8.cell 3 rfl 1
        have q2 := st8.cell 3 rfl 2
        have q3 := st8.cell 3 rfl 3
        simp only [List.getElem?_toArray, List.getElem?_cons_zero, List.getElem?_cons_succ] at d0 d1 d2 d3 p0 p1 p2 p3 q0 q1 q2 q3
        have hea := eqArr2
        go_wp2
        refine wp_region_K [] [.val (.agg #[.int .i64 e0, .int .i64 e1, .int .i64 e2, .int .i64 e3]),
            .val (.agg #[.int .u8 KK, .int .i64 S, .int .i64 DX, .int .i64 DY]),
            .val (.agg #[.int .i64 r1, .int .i64 r2, .int .i64 r3, .int .i64 r4]),
            .val (.agg #[.int .i64 e0, .int .i64 e1, .int .i64 e2, .int .i64 e3]),
            .val (.bool true),
            .val (.bool true),
            .val (.bool false),
            .val (.bool false),
            .val (.bool true),
            .val (.bool true),
            .val (.bool true),
            .val (.bool true),
            .val (.bool true),
            .val (.bool true)]
          [[.ini 8], [.ini 2], [.ini 5], [.frm 1 38, .frm 2 39], [.frm 0 37, .frm 3 40], [.frm 4 41], [.ini 6, .frm 5 42], [.ini 9, .frm 5 42], [.frm 6 43, .frm 7 44, .frm 5 42], [.frm 5 42, .frm 8 45], [.frm 9 46], [.frm 10 47], [.frm 10 47, .frm 11 48], [.frm 12 49]]
          mixed (by kernel_rfl) (by kernel_rfl) (allPre_of ⟨trivial, trivial, trivial, trivial, trivial, trivial, trivial, trivial, trivial, trivial, trivial, trivial, trivial, trivial, trivial⟩)
          ⟨OpOk.quiet rfl ?_,
            OpOk.quiet rfl ?_,
            OpOk.quiet rfl ?_,
            OpOk.call rfl ?_,
            OpOk.quiet rfl ?_,
            OpOk.quiet rfl ?_,
            OpOk.quietG rfl (by kernel_rfl) (fun a w hf => by obtain ⟨-, h1, -⟩ := hf; exact h1.elim fun _ h => h.elim fun _ h => h) ?_,
            OpOk.quietG rfl (by kernel_rfl) (fun a w hf => by obtain ⟨-, h1, -⟩ := hf; exact h1.elim fun _ h => h.elim fun _ h => h) ?_,
            OpOk.quietG rfl (by kernel_rfl) (fun a w hf => by obtain ⟨-, -, h1, -⟩ := hf; exact h1.elim fun _ h => h.elim fun _ h => h) ?_,
            OpOk.quiet rfl ?_,
            OpOk.quiet rfl ?_,
            OpOk.callG rfl (by kernel_rfl) (fun a w hf => by obtain ⟨h1, -⟩ := hf; exact h1.elim fun _ h => h.elim fun _ h => h) ?_,
            OpOk.quiet rfl ?_,
            OpOk.quiet rfl ?_, trivial⟩ ?_
        · intro a u hG hf
          simp [facts, Need.fact, Act.eval] at hf
          have hc := True.intro
          have y0 := (hG.cell (p := ⟨w7.heap.size, 0, none⟩) (st8.lt 0 rfl) (by simp)).trans d0
          have y1 := (hG.cell (p := ⟨w7.heap.size, 1, none⟩) (st8.lt 0 rfl) (by simp)).trans d1
          have y2 := (hG.cell (p := ⟨w7.heap.size, 2, none⟩) (st8.lt 0 rfl) (by simp)).trans d2
          have y3 := (hG.cell (p := ⟨w7.heap.size, 3, none⟩) (st8.lt 0 rfl) (by simp)).trans d3
          have z0 := (hG.cell (p := ⟨w4.heap.size, 0, none⟩) (st8.lt 1 rfl) (by simp)).trans p0
          have z1 := (hG.cell (p := ⟨w4.heap.size, 1, none⟩) (st8.lt 1 rfl) (by simp)).trans p1
          have z2 := (hG.cell (p := ⟨w4.heap.size, 2, none⟩) (st8.lt 1 rfl) (by simp)).trans p2
          have z3 := (hG.cell (p := ⟨w4.heap.size, 3, none⟩) (st8.lt 1 rfl) (by simp)).trans p3
          have x0 := (hG.cell (p := ⟨w.heap.size, 0, none⟩) (st8.lt 3 rfl) (by simp)).trans q0
          have x1 := (hG.cell (p := ⟨w.heap.size, 1, none⟩) (st8.lt 3 rfl) (by simp)).trans q1
          have x2 := (hG.cell (p := ⟨w.heap.size, 2, none⟩) (st8.lt 3 rfl) (by simp)).trans q2
          have x3 := (hG.cell (p := ⟨w.heap.size, 3, none⟩) (st8.lt 3 rfl) (by simp)).trans q3

          go_simp
        · intro a u hG hf
          simp [facts, Need.fact, Act.eval] at hf
          have hc := True.intro
          have y0 := (hG.cell (p := ⟨w7.heap.size, 0, none⟩) (st8.lt 0 rfl) (by simp)).trans d0
          have y1 := (hG.cell (p := ⟨w7.heap.size, 1, none⟩) (st8.lt 0 rfl) (by simp)).trans d1
          have y2 := (hG.cell (p := ⟨w7.heap.size, 2, none⟩) (st8.lt 0 rfl) (by simp)).trans d2
          have y3 := (hG.cell (p := ⟨w7.heap.size, 3, none⟩) (st8.lt 0 rfl) (by simp)).trans d3
          have z0 := (hG.cell (p := ⟨w4.heap.size, 0, none⟩) (st8.lt 1 rfl) (by simp)).trans p0
          have z1 := (hG.cell (p := ⟨w4.heap.size, 1, none⟩) (st8.lt 1 rfl) (by simp)).trans p1
          have z2 := (hG.cell (p := ⟨w4.heap.size, 2, none⟩) (st8.lt 1 rfl) (by simp)).trans p2
          have z3 := (hG.cell (p := ⟨w4.heap.size, 3, none⟩) (st8.lt 1 rfl) (by simp)).trans p3
          have x0 := (hG.cell (p := ⟨w.heap.size, 0, none⟩) (st8.lt 3 rfl) (by simp)).trans q0
          have x1 := (hG.cell (p := ⟨w.heap.size, 1, none⟩) (st8.lt 3 rfl) (by simp)).trans q1
          have x2 := (hG.cell (p := ⟨w.heap.size, 2, none⟩) (st8.lt 3 rfl) (by simp)).trans q2
          have x3 := (hG.cell (p := ⟨w.heap.size, 3, none⟩) (st8.lt 3 rfl) (by simp)).trans q3

          go_simp
        · intro a u hG hf
          simp [facts, Need.fact, Act.eval] at hf
          have hc := True.intro
          have y0 := (hG.cell (p := ⟨w7.heap.size, 0, none⟩) (st8.lt 0 rfl) (by simp)).trans d0
          have y1 := (hG.cell (p := ⟨w7.heap.size, 1, none⟩) (st8.lt 0 rfl) (by simp)).trans d1
          have y2 := (hG.cell (p := ⟨w7.heap.size, 2, none⟩) (st8.lt 0 rfl) (by simp)).trans d2
          have y3 := (hG.cell (p := ⟨w7.heap.size, 3, none⟩) (st8.lt 0 rfl) (by simp)).trans d3
          have z0 := (hG.cell (p := ⟨w4.heap.size, 0, none⟩) (st8.lt 1 rfl) (by simp)).trans p0
          have z1 := (hG.cell (p := ⟨w4.heap.size, 1, none⟩) (st8.lt 1 rfl) (by simp)).trans p1
          have z2 := (hG.cell (p := ⟨w4.heap.size, 2, none⟩) (st8.lt 1 rfl) (by simp)).trans p2
          have z3 := (hG.cell (p := ⟨w4.heap.size, 3, none⟩) (st8.lt 1 rfl) (by simp)).trans p3
          have x0 := (hG.cell (p := ⟨w.heap.size, 0, none⟩) (st8.lt 3 rfl) (by simp)).trans q0
          have x1 := (hG.cell (p := ⟨w.heap.size, 1, none⟩) (st8.lt 3 rfl) (by simp)).trans q1
          have x2 := (hG.cell (p := ⟨w.heap.size, 2, none⟩) (st8.lt 3 rfl) (by simp)).trans q2
          have x3 := (hG.cell (p := ⟨w.heap.size, 3, none⟩) (st8.lt 3 rfl) (by simp)).trans q3

          go_simp
        · intro a u _ hf
          simp [facts, Need.fact, Ent.val, Act.eval] at hf
          refine ⟨_, _, by go_simp, (vrc _).mono ?_⟩
          rintro e w' ⟨rfl, hb⟩
          exact ⟨_, rfl, hb, rfl⟩
        · intro a u _ hf
          simp [facts, Need.fact, Ent.val, Act.eval] at hf
          go_simp
        · intro a u _ hf
          simp [facts, Need.fact, Ent.val, Act.eval] at hf
          go_simp
        · intro a u _ hf
          simp [facts, Need.fact, Ent.val, Act.eval] at hf
          go_simp
        · intro a u _ hf
          simp [facts, Need.fact, Ent.val, Act.eval] at hf
          go_simp
        · intro a u _ hf
          simp [facts, Need.fact, Ent.val, Act.eval] at hf
          go_simp
        · intro a u _ hf
          simp [facts, Need.fact, Ent.val, Act.eval] at hf
          go_simp
        · intro a u _ hf
          simp [facts, Need.fact, Ent.val, Act.eval] at hf
          go_simp
        · intro a u _ _
          refine ⟨_, _, by go_simp, (awake_c _).mono ?_⟩
          rintro e w' ⟨rfl, hb⟩
          exact ⟨_, rfl, hb, rfl⟩
        · intro a u _ hf
          simp [facts, Need.fact, Ent.val, Act.eval] at hf
          go_simp
        · intro a u _ hf
          simp [facts, Need.fact, Ent.val, Act.eval] at hf
          go_simp
        intro u lw hw wc hKp hE hI hD
        simp [allE, Ent.val] at hE
        obtain ⟨u0, u1, u2, u3, u4, u5, u6, u7, u8, u9, u10, u11, u12, u13⟩ := hE
        simp only [allPut, Act.put, u6, u7, u8, u11, u0, u1, u2, u3, u4, u5, u9, u10, u12, u13]
        clear u0 u1 u2 u3 u4 u5 u9 u10 u12 u13

        have st9 := st8.keep hKp (fun i x _ => by simp) (fun x hx => by simp at hx)
        clear hKp hI hD st8 d0 d1 d2 d3 p0 p1 p2 p3 q0 q1 q2 q3 hea vrc
        try simp only [List.setIfInBounds_toArray, List.set_cons_zero, List.set_cons_succ]
        go_wp2
        go_ret
        exact ⟨rfl, st9.hb⟩
end Go.Proofs.YtlchljkmipejdaaGreat
