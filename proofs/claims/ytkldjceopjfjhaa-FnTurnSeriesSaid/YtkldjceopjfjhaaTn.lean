import Derived.Test.YtkldjceopjfjhaaSo
import Derived.Test.YtkldjceopjfjhaaVa
import Derived.Test.YtkldjceopjfjhaaAwake
set_option linter.unusedSimpArgs false
set_option linter.unusedVariables false
namespace JR
open Go Go.RowKit
theorem wanted_of {ops : Array Oper} {o : Oper} {a : Act} {j t : Nat} {b : Bool} (hg : o.guard = some (j, b)) (hd : (ops[j]?).bind (·.dst) = some t) (hv : a.eval (.tmp t) = .bool b) : Region.wanted o (yielded ops a.tmps) = true := by
  have h : a.tmps[t]? = some (.bool b) := by
    cases hh : a.tmps[t]? with
    | none => simp [Act.eval, hh, undef] at hv
    | some x => simp [Act.eval, hh] at hv; rw [hv]
  have e : ((ops[j]?).bind (·.dst)).bind (a.tmps[·]?) = some (.bool b) := by simp only [hd]; exact h
  have y : yielded ops a.tmps j = some b := by unfold yielded; simp only [e]
  unfold Region.wanted
  simp [hg, y]
section
variable {P : Program} {ops : Array Oper} {Q : Exit → Act → World → Prop} {G : World → Prop} {B0 : Nat} {plan : List Ent} {a0 : Act} {i : Nat} {o : Oper} {ns : List Need}
theorem OpOk.quietG {x : Value} {j t : Nat} {b : Bool} (hg : o.guard = some (j, b)) (hd : (ops[j]?).bind (·.dst) = some t) (hv : ∀ a w, facts plan a0 a w ns → a.eval (.tmp t) = .bool b)
    (h : ∀ a w, G w → facts plan a0 a w ns → (execOp a.eval o).run P w = .ok (.value x) w) :
    OpOk P ops Q G B0 plan a0 i o (.val x) ns := by
  intro a w hG hf
  refine ⟨fun _ => ?_, fun h => by rw [wanted_of hg hd (hv a w hf)] at h; cases h⟩
  unfold Oper.wp
  rw [h a w hG hf]
  exact ⟨x, rfl, rfl, .inl (Ext.refl w)⟩
theorem OpOk.callG {e : Ent} {j t : Nat} {b : Bool} (hg : o.guard = some (j, b)) (hd : (ops[j]?).bind (·.dst) = some t) (hv : ∀ a w, facts plan a0 a w ns → a.eval (.tmp t) = .bool b)
    (h : ∀ a w, G w → facts plan a0 a w ns → ∃ f args, (execOp a.eval o).run P w = .ok (.enter f args) w ∧
    Calls P f args w fun x w' => ∃ v, x = .returned v ∧ Ext w w' ∧ e.E v w.heap.size w'.heap.size a w') :
    OpOk P ops Q G B0 plan a0 i o e ns := by
  intro a w hG hf
  refine ⟨fun _ => ?_, fun h => by rw [wanted_of hg hd (hv a w hf)] at h; cases h⟩
  obtain ⟨f, args, h1, h2⟩ := h a w hG hf
  unfold Oper.wp
  rw [h1, Oper.upon_enter]
  refine h2.mono fun x w' hx => ?_
  obtain ⟨v, rfl, hv, he⟩ := hx
  exact ⟨v, rfl, he, .inl hv⟩
end
end JR
namespace Go.Proofs.Ytkldjceopjfjhaa
open Go.RowKit PF JR
theorem _root_.PF.SlP.len {w : World} {v : Value} {l : List (Int × Int)} (h : SlP w v l) : ∃ A c, v = .slice A l.length c := by
  obtain ⟨A, c, hv, _⟩ := h
  exact ⟨A, c, hv⟩
theorem eqP2 (a b : Int) (d : Nat) (u : World) : (Op.equalIn (d + 2) 29 (.agg #[.int .i64 a, .int .i64 b]) (.agg #[.int .i64 a, .int .i64 b])).run Try.prog u = .ok true u := by
  have h25 : Try.prog.underlying 29 = some (.struct #[_, _]) := Try.underlying29
  have h2 : Try.prog.underlying 2 = some (.int .i64) := Try.underlying2
  unfold Op.equalIn
  simp [run_underlying h25, go_sem]
theorem eqArr2 (a b c d : Int) (u : World) : (Op.equalIn 10000 30 (.agg #[.int .i64 a, .int .i64 b, .int .i64 c, .int .i64 d]) (.agg #[.int .i64 a, .int .i64 b, .int .i64 c, .int .i64 d])).run Try.prog u = .ok true u := by
  have h26 : Try.prog.underlying 30 = some (.array 2 29) := Try.underlying30
  have e1 := fun u => eqP2 a b 9997 u
  have e2 := fun u => eqP2 c d 9997 u
  rw [show (10000 : Nat) = 9999 + 1 from rfl]
  unfold Op.equalIn
  simp only [Nat.reduceAdd] at e1 e2
  simp [run_underlying h26, go_sem, e1, e2, show List.range' 0 2 = [0, 1] from rfl]
theorem okP_bd {l : List (Int × Int)} (h : l.all okP = true) : ∀ p ∈ l, -1024 ≤ p.1 ∧ p.1 ≤ 1024 ∧ -1024 ≤ p.2 ∧ p.2 ≤ 1024 := by
  intro p hp
  have := List.all_eq_true.1 h p hp
  simpa [okP] using this
theorem nSeg_map {f : Int × Int → Int × Int} (hf : ∀ a b, f a = f b → a = b) (closed : Bool) (l : List (Int × Int)) : nSeg closed (l.map f) = nSeg closed l := by
  unfold nSeg
  simp only [List.length_map, List.getElem?_map]
  have e : (Option.map f l[l.length - 1]? = Option.map f l[0]?) ↔ l[l.length - 1]? = l[0]? := by
    constructor
    · intro h
      cases h1 : l[l.length - 1]? with
      | none => cases h2 : l[0]? with
        | none => rfl
        | some b => rw [h1, h2] at h; cases h
      | some a => cases h2 : l[0]? with
        | none => rw [h1, h2] at h; cases h
        | some b => rw [h1, h2] at h; rw [hf a b (by simpa using h)]
    · intro h; rw [h]
  simp only [e]
theorem seriesOf_c (K : Nat) (hK2 : K ≤ 2) (closed : Bool) (l : List (Int × Int)) (hl : l.length ≤ 12) (h2l : 2 ≤ l.length) (h3l : closed = true → 3 ≤ l.length) (hbd : ∀ p ∈ l, Bnd p) (v : Value) (w : World) (hv : SlP w v l) :
    Calls Try.prog 8 #[v, .bool closed, .int .i64 K, .int .i64 2] w (SoP closed l w) := by
  cases closed with
  | true => exact seriesOf_true K hK2 l hl h2l h3l hbd v w hv
  | false => exact seriesOf_false K hK2 l hl h2l h3l hbd v w hv
theorem SlR.below {l h : Nat} {w w' : World} {v : Value} {L : List (Int × Int)} (hb : Below w.heap.size w w') (H : SlR l h w v L) : SlR l h w' v L := by
  obtain ⟨A, c, hv, hh⟩ := H
  refine ⟨A, c, hv, fun k p hp => ?_⟩
  obtain ⟨b, h1, h4, h5, h2, h3⟩ := hh k p hp
  exact ⟨b, h1, h4, h5, (hb.cell (World.block_lt_of_cell? w _ h2)).trans h2, (hb.cell (World.block_lt_of_cell? w _ h3)).trans h3⟩

set_option maxRecDepth 100000 in
set_option maxHeartbeats 8000000 in
theorem turnSer_c (KK S DX DY : Int) (hK0 : 0 ≤ KK) (KD : Nat) (hKD : KD ≤ 255) (closed : Bool) (l : List (Int × Int)) (hl0 : l.length ≤ 9223372036854775807) (v : Value) (w : World) (hv : SlP w v l) :
    Calls Try.prog 4 #[.agg #[.int .u8 KK, .int .i64 S, .int .i64 DX, .int .i64 DY], v, .bool closed, .int .u8 KD] w fun e w' => e = .returned (.bool true) ∧ Below w.heap.size w w' := by
  have st0 := (Blk.nil w).push rfl #[.int .u8 KK, .int .i64 S, .int .i64 DX, .int .i64 DY] 40
  have s0 := hv.below st0.hb
  obtain ⟨A0, c0, rfl⟩ := hv.len
  clear hv
  have q0 := st0.cell 0 rfl 0
  have q1 := st0.cell 0 rfl 1
  have q2 := st0.cell 0 rfl 2
  have q3 := st0.cell 0 rfl 3
  simp only [List.getElem?_toArray, List.getElem?_cons_zero, List.getElem?_cons_succ] at q0 q1 q2 q3
  rcases Nat.lt_or_ge 2147483647 l.length with hbig | l1
  · have hbig' : (2147483647 : Int) < (l.length : Int) := by omega
    generalize l.length = n at *
    go_enter Try.func4, Try.ntmps4
    go_wp2
    go_ret
    exact ⟨rfl, st0.hb⟩
  have l2 : ¬ (2147483647 : Int) < (l.length : Int) := by omega
  have hvp := fun u (h : SlP u (.slice A0 l.length c0) l) => varyPoints_c l 2 12 l1 _ u h
  generalize hvo : decide ((2 : Int) ≤ l.length ∧ (l.length : Int) ≤ 12 ∧ l.all okP = true) = vo at *
  go_enter Try.func4, Try.ntmps4
  go_wp2_with (go_at_call 12; refine JR.StopM.out ?_)
  refine ⟨?_⟩
  refine (ivt_c KK S DX DY _).mono ?_
  rintro e w1 ⟨rfl, hb⟩
  have st1 := st0.ext hb
  have s1 := s0.below hb
  clear hb st0 s0 q0 q1 q2 q3
  generalize hivt : decide (KK ≤ 7 ∧ 1 ≤ S ∧ S ≤ 8 ∧ -4096 ≤ DX ∧ DX ≤ 4096 ∧ -4096 ≤ DY ∧ DY ≤ 4096) = ivt
  cases ivt with
  | false =>
    clear hivt
    go_wp2_with (go_at_call 6; refine JR.StopM.out ?_)
    refine ⟨?_⟩
    refine (awake_c _).mono ?_
    rintro e wA ⟨rfl, hbA⟩
    have stA := st1.ext hbA
    go_wp2
    go_ret
    exact ⟨rfl, stA.hb⟩
  | true =>
    have hivt := of_decide_eq_true hivt
    have b0 : 0 ≤ KK ∧ KK ≤ 7 := ⟨hK0, hivt.1⟩
    have b2 : 1 ≤ S ∧ S ≤ 8 := ⟨hivt.2.1, hivt.2.2.1⟩
    have b3 : -4096 ≤ DX ∧ DX ≤ 4096 ∧ -4096 ≤ DY ∧ DY ≤ 4096 := by omega
    clear hivt
    go_wp2_with (go_at_call 5; refine JR.StopM.out ?_)
    refine ⟨?_⟩
    refine (hvp _ s1).mono ?_
    rintro e w2 ⟨rfl, hb⟩
    have st2 := st1.ext hb
    have s2 := s1.below hb
    clear hb st1 s1 hvp
    cases vo with
    | false =>
      clear hvo
      go_wp2_with (go_at_call 6; refine JR.StopM.out ?_)
      refine ⟨?_⟩
      refine (awake_c _).mono ?_
      rintro e wA ⟨rfl, hbA⟩
      have stA := st2.ext hbA
      go_wp2
      go_ret
      exact ⟨rfl, stA.hb⟩
    | true =>
      have hvo := of_decide_eq_true hvo
      have h2l : 2 ≤ l.length := by omega
      have hl12 : l.length ≤ 12 := by omega
      have hok := okP_bd hvo.2.2
      clear hvo
      cases closed with
      | true =>
        rcases Nat.lt_or_ge l.length 3 with hcl | h3
        · have hcl' : (l.length : Int) < 3 := by omega
          clear hok h2l hl12
          go_wp2_with (go_at_call 6; refine JR.StopM.out ?_)
          refine ⟨?_⟩
          refine (awake_c _).mono ?_
          rintro e wA ⟨rfl, hbA⟩
          have stA := st2.ext hbA
          go_wp2
          go_ret
          exact ⟨rfl, stA.hb⟩
        have hn3 : ¬ (l.length : Int) < 3 := by omega
        obtain ⟨ki, hki, hki2⟩ : ∃ ki : Nat, KD % 3 = ki ∧ ki ≤ 2 := ⟨KD % 3, rfl, by omega⟩
        have hrem : (KD : Int).tmod 3 = (ki : Int) := by rw [Int.tmod_eq_emod_of_nonneg (by omega)]; omega
        clear hki
        have hbl : ∀ p ∈ l, Bnd p := fun p hp => by have := hok p hp; unfold Bnd; omega
        have hbm : ∀ p ∈ l.map (tpt KK S DX DY), Bnd p := by
          intro p hp
          rw [List.mem_map] at hp
          obtain ⟨q, hq, rfl⟩ := hp
          have := tpt_bd KK S DX DY b2 b3 q (hok q hq)
          unfold Bnd; omega
        have hsx := fun u h => seriesOf_c ki hki2 true l hl12 h2l (fun _ => h3) hbl (.slice A0 l.length c0) u h
        have hsy := fun v u h => seriesOf_c ki hki2 true (l.map (tpt KK S DX DY)) (by simpa using hl12) (by simpa using h2l) (fun _ => by simpa using h3) hbm v u h
        have htu := fun v u h => varyTurned_n KK S DX DY b0 b2 (by omega) l (fun p hp => by have := hok p hp; omega) (by omega) v u h
        unfold SoP at hsx hsy
        rw [box_turn b0 (by omega) l (by omega), nSeg_map (fun a b h => tpt_inj b0 b2.1 h), List.length_map, turn_conv b0 b2.1 l h2l] at hsy
        have hvr : ∀ u, _ := fun u => varyRect_c KK S DX DY (box l).1 (box l).2.1 (box l).2.2.1 (box l).2.2.2 b0 b2 (by omega) (by obtain ⟨-, ⟨p, hp, h1⟩, ⟨q, hq, h2⟩, -⟩ := box_spec l (by omega); have := hok p hp; have := hok q hq; omega) (by obtain ⟨-, -, -, ⟨p, hp, h1⟩, ⟨q, hq, h2⟩⟩ := box_spec l (by omega); have := hok p hp; have := hok q hq; omega) u
        simp only [mbx] at hsy
        have hclk : area l l.length ≠ 0 → decide (0 < cws (l.map (tpt KK S DX DY)) l.length) = (decide (0 < cws l l.length) ^^ decide (4 ≤ KK)) := fun h => turn_clock b0 b2.1 l (by omega) h
        generalize decide (0 < cws (l.map (tpt KK S DX DY)) l.length) = cw2 at *
        generalize decide (0 < cws l l.length) = cw at *
        generalize (!(cvs l l.length).1) = cv at *
        generalize rx0 KK S DX DY (box l).1 (box l).2.1 (box l).2.2.1 (box l).2.2.2 = r0 at *
        generalize ry0 KK S DX DY (box l).1 (box l).2.1 (box l).2.2.1 (box l).2.2.2 = r1 at *
        generalize rx1 KK S DX DY (box l).1 (box l).2.1 (box l).2.2.1 (box l).2.2.2 = r2 at *
        generalize ry1 KK S DX DY (box l).1 (box l).2.1 (box l).2.2.1 (box l).2.2.2 = r3 at *
        generalize (box l).1 = x0 at *
        generalize (box l).2.1 = x1 at *
        generalize (box l).2.2.1 = x2 at *
        generalize (box l).2.2.2 = x3 at *
        generalize nSeg true l = ns at *
        clear hok hbm
        have wk1 : IntKind.i64.wrap (ki : Int) = (ki : Int) := wrap_in _ (by omega) (by omega)
        have q0 := st2.cell 0 rfl 0
        have q1 := st2.cell 0 rfl 1
        have q2 := st2.cell 0 rfl 2
        have q3 := st2.cell 0 rfl 3
        simp only [List.getElem?_toArray, List.getElem?_cons_zero, List.getElem?_cons_succ] at q0 q1 q2 q3
        go_wp2_with (go_at_call 8; refine JR.StopM.out ?_)
        refine ⟨?_⟩
        refine (hsx _ s2).mono ?_
        rintro e w3 ⟨A1, c1, B1, m1, d1, bv1, bi1, rfl, sx3, hb⟩
        have st3 := (st2.ext hb).push rfl #[.int .i64 l.length, .int .i64 ns, .slice A1 l.length c1, .slice B1 m1 d1, .int .i64 x0, .int .i64 x1, .int .i64 x2, .int .i64 x3, .bool false, .bool bv1, .bool cv, .bool cw, .bool bi1] 32
        have s3 := s2.below (hb.trans ((Below.refl w3.heap.size w3).alloc (Nat.le_refl _) (.cells #[.int .i64 l.length, .int .i64 ns, .slice A1 l.length c1, .slice B1 m1 d1, .int .i64 x0, .int .i64 x1, .int .i64 x2, .int .i64 x3, .bool false, .bool bv1, .bool cv, .bool cw, .bool bi1] 32) |>.mono hb.size))
        have sx4 := SlR.below ((Below.refl w3.heap.size w3).alloc (Nat.le_refl _) (.cells #[.int .i64 l.length, .int .i64 ns, .slice A1 l.length c1, .slice B1 m1 d1, .int .i64 x0, .int .i64 x1, .int .i64 x2, .int .i64 x3, .bool false, .bool bv1, .bool cv, .bool cw, .bool bi1] 32)) sx3
        clear hb st2 s2 hsx sx3 q0 q1 q2 q3
        have q0 := st3.cell 1 rfl 0
        have q1 := st3.cell 1 rfl 1
        have q2 := st3.cell 1 rfl 2
        have q3 := st3.cell 1 rfl 3
        simp only [List.getElem?_toArray, List.getElem?_cons_zero, List.getElem?_cons_succ] at q0 q1 q2 q3
        go_wp2_with (go_at_call 13; refine JR.StopM.out ?_)
        refine ⟨?_⟩
        refine (htu _ _ s3).mono ?_
        rintro e w4 ⟨v4, rfl, sr4, hb⟩
        have st4 := st3.ext hb
        have s4 := s3.below hb
        have sx5 := SlR.below hb sx4
        clear hb st3 s3 sx4 q0 q1 q2 q3
        go_wp2_with (go_at_call 8; refine JR.StopM.out ?_)
        refine ⟨?_⟩
        refine (hsy _ _ sr4.p).mono ?_
        rintro e w5 ⟨A2, c2, B2, m2, d2, bv2, bi2, rfl, sy5, hb⟩
        have hal := (Below.refl w5.heap.size w5).alloc (Nat.le_refl _) (.cells #[.int .i64 l.length, .int .i64 ns, .slice A2 l.length c2, .slice B2 m2 d2, .int .i64 r0, .int .i64 r1, .int .i64 r2, .int .i64 r3, .bool false, .bool bv2, .bool cv, .bool cw2, .bool bi2] 32)
        have st5 := (st4.ext hb).push rfl #[.int .i64 l.length, .int .i64 ns, .slice A2 l.length c2, .slice B2 m2 d2, .int .i64 r0, .int .i64 r1, .int .i64 r2, .int .i64 r3, .bool false, .bool bv2, .bool cv, .bool cw2, .bool bi2] 32
        have s5 := s4.below (hb.trans (hal.mono hb.size))
        have sx6 := SlR.below (hb.trans (hal.mono hb.size)) sx5
        have sy6 := SlR.below hal sy5
        clear hb hal st4 s4 hsy sx5 sy5 sr4
        go_wp2_with (with_reducible refine stop_region ?_)
        refine ⟨?_⟩
        generalize w5.alloc (.cells #[.int .i64 l.length, .int .i64 ns, .slice A2 l.length c2, .slice B2 m2 d2, .int .i64 r0, .int .i64 r1, .int .i64 r2, .int .i64 r3, .bool false, .bool bv2, .bool cv, .bool cw2, .bool bi2] 32) = w6 at *
        generalize w5.heap.size = b11 at *
        generalize w3.heap.size = b10 at *
        have y0 := st5.cell 0 rfl 0
        have z0 := st5.cell 1 rfl 0
        have y1 := st5.cell 0 rfl 1
        have z1 := st5.cell 1 rfl 1
        have y2 := st5.cell 0 rfl 2
        have z2 := st5.cell 1 rfl 2
        have y4 := st5.cell 0 rfl 4
        have z4 := st5.cell 1 rfl 4
        have y5 := st5.cell 0 rfl 5
        have z5 := st5.cell 1 rfl 5
        have y6 := st5.cell 0 rfl 6
        have z6 := st5.cell 1 rfl 6
        have y7 := st5.cell 0 rfl 7
        have z7 := st5.cell 1 rfl 7
        have y8 := st5.cell 0 rfl 8
        have z8 := st5.cell 1 rfl 8
        have y10 := st5.cell 0 rfl 10
        have z10 := st5.cell 1 rfl 10
        have q0 := st5.cell 2 rfl 0
        have q1 := st5.cell 2 rfl 1
        have q2 := st5.cell 2 rfl 2
        have q3 := st5.cell 2 rfl 3
        simp only [List.getElem?_toArray, List.getElem?_cons_zero, List.getElem?_cons_succ] at y0 z0 y1 z1 y2 z2 y4 z4 y5 z5 y6 z6 y7 z7 y8 z8 y10 z10 q0 q1 q2 q3
        have hea := eqArr2
        refine wp_region_K [] [.val (.pointer (some ⟨b10, 0, none⟩)),
            .val (.int .i64 l.length),
            .val (.pointer (some ⟨b11, 0, none⟩)),
            .val (.int .i64 l.length),
            .val (.bool false),
            .val (.bool false),
            .val (.pointer (some ⟨b10, 1, none⟩)),
            .val (.int .i64 ns),
            .val (.pointer (some ⟨b11, 1, none⟩)),
            .val (.int .i64 ns),
            .val (.bool false),
            .val (.bool false),
            .val (.bool false),
            .val (.pointer (some ⟨b10, 8, none⟩)),
            .val (.bool false),
            .val (.pointer (some ⟨b11, 8, none⟩)),
            .val (.bool false),
            .val (.bool false),
            .val (.bool false),
            .val (.bool false),
            .val (.pointer (some ⟨b10, 10, none⟩)),
            .val (.bool cv),
            .val (.pointer (some ⟨b11, 10, none⟩)),
            .val (.bool cv),
            .val (.bool false),
            .val (.bool false),
            .val (.bool false),
            .val (.pointer (some ⟨b11, 4, none⟩)),
            .val (.agg #[.int .i64 r0, .int .i64 r1, .int .i64 r2, .int .i64 r3]),
            .val (.agg #[.int .u8 KK, .int .i64 S, .int .i64 DX, .int .i64 DY]),
            .val (.pointer (some ⟨b10, 4, none⟩)),
            .val (.agg #[.int .i64 x0, .int .i64 x1, .int .i64 x2, .int .i64 x3]),
            .val (.agg #[.int .i64 r0, .int .i64 r1, .int .i64 r2, .int .i64 r3]),
            .val (.bool false),
            .val (.bool false),
            .val (.bool false),
            .val (.pointer (some ⟨b10, 2, none⟩)),
            .val (.slice A1 l.length c1),
            .val (.int .i64 l.length),
            .val (.pointer (some ⟨b11, 2, none⟩)),
            .val (.slice A2 l.length c2),
            .val (.int .i64 l.length),
            .val (.bool false),
            .val (.bool false)]
          [[.ini 10], [.frm 0 47], [.ini 11], [.frm 2 49], [.frm 1 48, .frm 3 50], [.frm 4 51], [.frm 5 52, .ini 10], [.frm 5 52, .frm 6 53], [.frm 5 52, .ini 11], [.frm 5 52, .frm 8 55], [.frm 5 52, .frm 7 54, .frm 9 56], [.frm 5 52, .frm 10 57], [.frm 11 58], [.frm 12 59, .ini 10], [.frm 12 59, .frm 13 60], [.frm 12 59, .ini 11], [.frm 12 59, .frm 15 62], [.frm 12 59, .frm 14 61, .frm 16 63], [.frm 12 59, .frm 17 64], [.frm 18 65], [.frm 19 66, .ini 10], [.frm 19 66, .frm 20 67], [.frm 19 66, .ini 11], [.frm 19 66, .frm 22 69], [.frm 19 66, .frm 21 68, .frm 23 70], [.frm 19 66, .frm 24 71], [.frm 25 72], [.frm 26 73, .ini 11], [.frm 26 73, .frm 27 74], [.frm 26 73, .ini 4], [.frm 26 73, .ini 10], [.frm 26 73, .frm 30 77], [.frm 26 73, .frm 29 76, .frm 31 78], [.frm 26 73, .frm 28 75, .frm 32 79], [.frm 26 73, .frm 33 80], [.frm 34 81], [.frm 35 82, .ini 10], [.frm 35 82, .frm 36 83], [.frm 35 82, .frm 37 84], [.frm 35 82, .ini 11], [.frm 35 82, .frm 39 86], [.frm 35 82, .frm 40 87], [.frm 35 82, .frm 38 85, .frm 41 88], [.frm 35 82, .frm 42 89]]
          mixed (by kernel_rfl) (by kernel_rfl) (allPre_of ⟨trivial, trivial, trivial, trivial, trivial, trivial, trivial, trivial, trivial, trivial, trivial, trivial, trivial, trivial, trivial, trivial, trivial, trivial, trivial, trivial, trivial, trivial, trivial, trivial, trivial, trivial, trivial, trivial, trivial, trivial, trivial, trivial, trivial, trivial, trivial, trivial, trivial, trivial, trivial, trivial, trivial, trivial, trivial, trivial, trivial⟩)
          ⟨OpOk.quiet rfl ?_,
            OpOk.quiet rfl ?_,
            OpOk.quiet rfl ?_,
            OpOk.quiet rfl ?_,
            OpOk.quiet rfl ?_,
            OpOk.quiet rfl ?_,
            OpOk.quietG rfl (by kernel_rfl) (fun a w hf => by obtain ⟨h1, -⟩ := hf; exact h1.elim fun _ h => h.elim fun _ h => h) ?_,
            OpOk.quietG rfl (by kernel_rfl) (fun a w hf => by obtain ⟨h1, -⟩ := hf; exact h1.elim fun _ h => h.elim fun _ h => h) ?_,
            OpOk.quietG rfl (by kernel_rfl) (fun a w hf => by obtain ⟨h1, -⟩ := hf; exact h1.elim fun _ h => h.elim fun _ h => h) ?_,
            OpOk.quietG rfl (by kernel_rfl) (fun a w hf => by obtain ⟨h1, -⟩ := hf; exact h1.elim fun _ h => h.elim fun _ h => h) ?_,
            OpOk.quietG rfl (by kernel_rfl) (fun a w hf => by obtain ⟨h1, -⟩ := hf; exact h1.elim fun _ h => h.elim fun _ h => h) ?_,
            OpOk.quiet rfl ?_,
            OpOk.quiet rfl ?_,
            OpOk.quietG rfl (by kernel_rfl) (fun a w hf => by obtain ⟨h1, -⟩ := hf; exact h1.elim fun _ h => h.elim fun _ h => h) ?_,
            OpOk.quietG rfl (by kernel_rfl) (fun a w hf => by obtain ⟨h1, -⟩ := hf; exact h1.elim fun _ h => h.elim fun _ h => h) ?_,
            OpOk.quietG rfl (by kernel_rfl) (fun a w hf => by obtain ⟨h1, -⟩ := hf; exact h1.elim fun _ h => h.elim fun _ h => h) ?_,
            OpOk.quietG rfl (by kernel_rfl) (fun a w hf => by obtain ⟨h1, -⟩ := hf; exact h1.elim fun _ h => h.elim fun _ h => h) ?_,
            OpOk.quietG rfl (by kernel_rfl) (fun a w hf => by obtain ⟨h1, -⟩ := hf; exact h1.elim fun _ h => h.elim fun _ h => h) ?_,
            OpOk.quiet rfl ?_,
            OpOk.quiet rfl ?_,
            OpOk.quietG rfl (by kernel_rfl) (fun a w hf => by obtain ⟨h1, -⟩ := hf; exact h1.elim fun _ h => h.elim fun _ h => h) ?_,
            OpOk.quietG rfl (by kernel_rfl) (fun a w hf => by obtain ⟨h1, -⟩ := hf; exact h1.elim fun _ h => h.elim fun _ h => h) ?_,
            OpOk.quietG rfl (by kernel_rfl) (fun a w hf => by obtain ⟨h1, -⟩ := hf; exact h1.elim fun _ h => h.elim fun _ h => h) ?_,
            OpOk.quietG rfl (by kernel_rfl) (fun a w hf => by obtain ⟨h1, -⟩ := hf; exact h1.elim fun _ h => h.elim fun _ h => h) ?_,
            OpOk.quietG rfl (by kernel_rfl) (fun a w hf => by obtain ⟨h1, -⟩ := hf; exact h1.elim fun _ h => h.elim fun _ h => h) ?_,
            OpOk.quiet rfl ?_,
            OpOk.quiet rfl ?_,
            OpOk.quietG rfl (by kernel_rfl) (fun a w hf => by obtain ⟨h1, -⟩ := hf; exact h1.elim fun _ h => h.elim fun _ h => h) ?_,
            OpOk.quietG rfl (by kernel_rfl) (fun a w hf => by obtain ⟨h1, -⟩ := hf; exact h1.elim fun _ h => h.elim fun _ h => h) ?_,
            OpOk.quietG rfl (by kernel_rfl) (fun a w hf => by obtain ⟨h1, -⟩ := hf; exact h1.elim fun _ h => h.elim fun _ h => h) ?_,
            OpOk.quietG rfl (by kernel_rfl) (fun a w hf => by obtain ⟨h1, -⟩ := hf; exact h1.elim fun _ h => h.elim fun _ h => h) ?_,
            OpOk.quietG rfl (by kernel_rfl) (fun a w hf => by obtain ⟨h1, -⟩ := hf; exact h1.elim fun _ h => h.elim fun _ h => h) ?_,
            OpOk.callG rfl (by kernel_rfl) (fun a w hf => by obtain ⟨h1, -⟩ := hf; exact h1.elim fun _ h => h.elim fun _ h => h) ?_,
            OpOk.quietG rfl (by kernel_rfl) (fun a w hf => by obtain ⟨h1, -⟩ := hf; exact h1.elim fun _ h => h.elim fun _ h => h) ?_,
            OpOk.quiet rfl ?_,
            OpOk.quiet rfl ?_,
            OpOk.quietG rfl (by kernel_rfl) (fun a w hf => by obtain ⟨h1, -⟩ := hf; exact h1.elim fun _ h => h.elim fun _ h => h) ?_,
            OpOk.quietG rfl (by kernel_rfl) (fun a w hf => by obtain ⟨h1, -⟩ := hf; exact h1.elim fun _ h => h.elim fun _ h => h) ?_,
            OpOk.quietG rfl (by kernel_rfl) (fun a w hf => by obtain ⟨h1, -⟩ := hf; exact h1.elim fun _ h => h.elim fun _ h => h) ?_,
            OpOk.quietG rfl (by kernel_rfl) (fun a w hf => by obtain ⟨h1, -⟩ := hf; exact h1.elim fun _ h => h.elim fun _ h => h) ?_,
            OpOk.quietG rfl (by kernel_rfl) (fun a w hf => by obtain ⟨h1, -⟩ := hf; exact h1.elim fun _ h => h.elim fun _ h => h) ?_,
            OpOk.quietG rfl (by kernel_rfl) (fun a w hf => by obtain ⟨h1, -⟩ := hf; exact h1.elim fun _ h => h.elim fun _ h => h) ?_,
            OpOk.quietG rfl (by kernel_rfl) (fun a w hf => by obtain ⟨h1, -⟩ := hf; exact h1.elim fun _ h => h.elim fun _ h => h) ?_,
            OpOk.quiet rfl ?_, trivial⟩ ?_
        · intro a u _ hf
          simp [facts, Need.fact, Ent.val, Act.eval] at hf
          go_simp
        · intro a u hG hf
          simp [facts, Need.fact, Ent.val, Act.eval] at hf
          have y0' := (hG.cell (p := ⟨b11, 0, none⟩) (st5.lt 0 rfl) (by simp)).trans y0
          have y1' := (hG.cell (p := ⟨b11, 1, none⟩) (st5.lt 0 rfl) (by simp)).trans y1
          have y2' := (hG.cell (p := ⟨b11, 2, none⟩) (st5.lt 0 rfl) (by simp)).trans y2
          have y4' := (hG.cell (p := ⟨b11, 4, none⟩) (st5.lt 0 rfl) (by simp)).trans y4
          have y5' := (hG.cell (p := ⟨b11, 5, none⟩) (st5.lt 0 rfl) (by simp)).trans y5
          have y6' := (hG.cell (p := ⟨b11, 6, none⟩) (st5.lt 0 rfl) (by simp)).trans y6
          have y7' := (hG.cell (p := ⟨b11, 7, none⟩) (st5.lt 0 rfl) (by simp)).trans y7
          have y8' := (hG.cell (p := ⟨b11, 8, none⟩) (st5.lt 0 rfl) (by simp)).trans y8
          have y10' := (hG.cell (p := ⟨b11, 10, none⟩) (st5.lt 0 rfl) (by simp)).trans y10
          have z0' := (hG.cell (p := ⟨b10, 0, none⟩) (st5.lt 1 rfl) (by simp)).trans z0
          have z1' := (hG.cell (p := ⟨b10, 1, none⟩) (st5.lt 1 rfl) (by simp)).trans z1
          have z2' := (hG.cell (p := ⟨b10, 2, none⟩) (st5.lt 1 rfl) (by simp)).trans z2
          have z4' := (hG.cell (p := ⟨b10, 4, none⟩) (st5.lt 1 rfl) (by simp)).trans z4
          have z5' := (hG.cell (p := ⟨b10, 5, none⟩) (st5.lt 1 rfl) (by simp)).trans z5
          have z6' := (hG.cell (p := ⟨b10, 6, none⟩) (st5.lt 1 rfl) (by simp)).trans z6
          have z7' := (hG.cell (p := ⟨b10, 7, none⟩) (st5.lt 1 rfl) (by simp)).trans z7
          have z8' := (hG.cell (p := ⟨b10, 8, none⟩) (st5.lt 1 rfl) (by simp)).trans z8
          have z10' := (hG.cell (p := ⟨b10, 10, none⟩) (st5.lt 1 rfl) (by simp)).trans z10
          have q0' := (hG.cell (p := ⟨w.heap.size, 0, none⟩) (st5.lt 2 rfl) (by simp)).trans q0
          have q1' := (hG.cell (p := ⟨w.heap.size, 1, none⟩) (st5.lt 2 rfl) (by simp)).trans q1
          have q2' := (hG.cell (p := ⟨w.heap.size, 2, none⟩) (st5.lt 2 rfl) (by simp)).trans q2
          have q3' := (hG.cell (p := ⟨w.heap.size, 3, none⟩) (st5.lt 2 rfl) (by simp)).trans q3
          go_simp
        · intro a u _ hf
          simp [facts, Need.fact, Ent.val, Act.eval] at hf
          go_simp
        · intro a u hG hf
          simp [facts, Need.fact, Ent.val, Act.eval] at hf
          have y0' := (hG.cell (p := ⟨b11, 0, none⟩) (st5.lt 0 rfl) (by simp)).trans y0
          have y1' := (hG.cell (p := ⟨b11, 1, none⟩) (st5.lt 0 rfl) (by simp)).trans y1
          have y2' := (hG.cell (p := ⟨b11, 2, none⟩) (st5.lt 0 rfl) (by simp)).trans y2
          have y4' := (hG.cell (p := ⟨b11, 4, none⟩) (st5.lt 0 rfl) (by simp)).trans y4
          have y5' := (hG.cell (p := ⟨b11, 5, none⟩) (st5.lt 0 rfl) (by simp)).trans y5
          have y6' := (hG.cell (p := ⟨b11, 6, none⟩) (st5.lt 0 rfl) (by simp)).trans y6
          have y7' := (hG.cell (p := ⟨b11, 7, none⟩) (st5.lt 0 rfl) (by simp)).trans y7
          have y8' := (hG.cell (p := ⟨b11, 8, none⟩) (st5.lt 0 rfl) (by simp)).trans y8
          have y10' := (hG.cell (p := ⟨b11, 10, none⟩) (st5.lt 0 rfl) (by simp)).trans y10
          have z0' := (hG.cell (p := ⟨b10, 0, none⟩) (st5.lt 1 rfl) (by simp)).trans z0
          have z1' := (hG.cell (p := ⟨b10, 1, none⟩) (st5.lt 1 rfl) (by simp)).trans z1
          have z2' := (hG.cell (p := ⟨b10, 2, none⟩) (st5.lt 1 rfl) (by simp)).trans z2
          have z4' := (hG.cell (p := ⟨b10, 4, none⟩) (st5.lt 1 rfl) (by simp)).trans z4
          have z5' := (hG.cell (p := ⟨b10, 5, none⟩) (st5.lt 1 rfl) (by simp)).trans z5
          have z6' := (hG.cell (p := ⟨b10, 6, none⟩) (st5.lt 1 rfl) (by simp)).trans z6
          have z7' := (hG.cell (p := ⟨b10, 7, none⟩) (st5.lt 1 rfl) (by simp)).trans z7
          have z8' := (hG.cell (p := ⟨b10, 8, none⟩) (st5.lt 1 rfl) (by simp)).trans z8
          have z10' := (hG.cell (p := ⟨b10, 10, none⟩) (st5.lt 1 rfl) (by simp)).trans z10
          have q0' := (hG.cell (p := ⟨w.heap.size, 0, none⟩) (st5.lt 2 rfl) (by simp)).trans q0
          have q1' := (hG.cell (p := ⟨w.heap.size, 1, none⟩) (st5.lt 2 rfl) (by simp)).trans q1
          have q2' := (hG.cell (p := ⟨w.heap.size, 2, none⟩) (st5.lt 2 rfl) (by simp)).trans q2
          have q3' := (hG.cell (p := ⟨w.heap.size, 3, none⟩) (st5.lt 2 rfl) (by simp)).trans q3
          go_simp
        · intro a u _ hf
          simp [facts, Need.fact, Ent.val, Act.eval] at hf
          go_simp
        · intro a u _ hf
          simp [facts, Need.fact, Ent.val, Act.eval] at hf
          go_simp
        · intro a u _ hf
          simp [facts, Need.fact, Ent.val, Act.eval] at hf
          go_simp
        · intro a u hG hf
          simp [facts, Need.fact, Ent.val, Act.eval] at hf
          have y0' := (hG.cell (p := ⟨b11, 0, none⟩) (st5.lt 0 rfl) (by simp)).trans y0
          have y1' := (hG.cell (p := ⟨b11, 1, none⟩) (st5.lt 0 rfl) (by simp)).trans y1
          have y2' := (hG.cell (p := ⟨b11, 2, none⟩) (st5.lt 0 rfl) (by simp)).trans y2
          have y4' := (hG.cell (p := ⟨b11, 4, none⟩) (st5.lt 0 rfl) (by simp)).trans y4
          have y5' := (hG.cell (p := ⟨b11, 5, none⟩) (st5.lt 0 rfl) (by simp)).trans y5
          have y6' := (hG.cell (p := ⟨b11, 6, none⟩) (st5.lt 0 rfl) (by simp)).trans y6
          have y7' := (hG.cell (p := ⟨b11, 7, none⟩) (st5.lt 0 rfl) (by simp)).trans y7
          have y8' := (hG.cell (p := ⟨b11, 8, none⟩) (st5.lt 0 rfl) (by simp)).trans y8
          have y10' := (hG.cell (p := ⟨b11, 10, none⟩) (st5.lt 0 rfl) (by simp)).trans y10
          have z0' := (hG.cell (p := ⟨b10, 0, none⟩) (st5.lt 1 rfl) (by simp)).trans z0
          have z1' := (hG.cell (p := ⟨b10, 1, none⟩) (st5.lt 1 rfl) (by simp)).trans z1
          have z2' := (hG.cell (p := ⟨b10, 2, none⟩) (st5.lt 1 rfl) (by simp)).trans z2
          have z4' := (hG.cell (p := ⟨b10, 4, none⟩) (st5.lt 1 rfl) (by simp)).trans z4
          have z5' := (hG.cell (p := ⟨b10, 5, none⟩) (st5.lt 1 rfl) (by simp)).trans z5
          have z6' := (hG.cell (p := ⟨b10, 6, none⟩) (st5.lt 1 rfl) (by simp)).trans z6
          have z7' := (hG.cell (p := ⟨b10, 7, none⟩) (st5.lt 1 rfl) (by simp)).trans z7
          have z8' := (hG.cell (p := ⟨b10, 8, none⟩) (st5.lt 1 rfl) (by simp)).trans z8
          have z10' := (hG.cell (p := ⟨b10, 10, none⟩) (st5.lt 1 rfl) (by simp)).trans z10
          have q0' := (hG.cell (p := ⟨w.heap.size, 0, none⟩) (st5.lt 2 rfl) (by simp)).trans q0
          have q1' := (hG.cell (p := ⟨w.heap.size, 1, none⟩) (st5.lt 2 rfl) (by simp)).trans q1
          have q2' := (hG.cell (p := ⟨w.heap.size, 2, none⟩) (st5.lt 2 rfl) (by simp)).trans q2
          have q3' := (hG.cell (p := ⟨w.heap.size, 3, none⟩) (st5.lt 2 rfl) (by simp)).trans q3
          go_simp
        · intro a u _ hf
          simp [facts, Need.fact, Ent.val, Act.eval] at hf
          go_simp
        · intro a u hG hf
          simp [facts, Need.fact, Ent.val, Act.eval] at hf
          have y0' := (hG.cell (p := ⟨b11, 0, none⟩) (st5.lt 0 rfl) (by simp)).trans y0
          have y1' := (hG.cell (p := ⟨b11, 1, none⟩) (st5.lt 0 rfl) (by simp)).trans y1
          have y2' := (hG.cell (p := ⟨b11, 2, none⟩) (st5.lt 0 rfl) (by simp)).trans y2
          have y4' := (hG.cell (p := ⟨b11, 4, none⟩) (st5.lt 0 rfl) (by simp)).trans y4
          have y5' := (hG.cell (p := ⟨b11, 5, none⟩) (st5.lt 0 rfl) (by simp)).trans y5
          have y6' := (hG.cell (p := ⟨b11, 6, none⟩) (st5.lt 0 rfl) (by simp)).trans y6
          have y7' := (hG.cell (p := ⟨b11, 7, none⟩) (st5.lt 0 rfl) (by simp)).trans y7
          have y8' := (hG.cell (p := ⟨b11, 8, none⟩) (st5.lt 0 rfl) (by simp)).trans y8
          have y10' := (hG.cell (p := ⟨b11, 10, none⟩) (st5.lt 0 rfl) (by simp)).trans y10
          have z0' := (hG.cell (p := ⟨b10, 0, none⟩) (st5.lt 1 rfl) (by simp)).trans z0
          have z1' := (hG.cell (p := ⟨b10, 1, none⟩) (st5.lt 1 rfl) (by simp)).trans z1
          have z2' := (hG.cell (p := ⟨b10, 2, none⟩) (st5.lt 1 rfl) (by simp)).trans z2
          have z4' := (hG.cell (p := ⟨b10, 4, none⟩) (st5.lt 1 rfl) (by simp)).trans z4
          have z5' := (hG.cell (p := ⟨b10, 5, none⟩) (st5.lt 1 rfl) (by simp)).trans z5
          have z6' := (hG.cell (p := ⟨b10, 6, none⟩) (st5.lt 1 rfl) (by simp)).trans z6
          have z7' := (hG.cell (p := ⟨b10, 7, none⟩) (st5.lt 1 rfl) (by simp)).trans z7
          have z8' := (hG.cell (p := ⟨b10, 8, none⟩) (st5.lt 1 rfl) (by simp)).trans z8
          have z10' := (hG.cell (p := ⟨b10, 10, none⟩) (st5.lt 1 rfl) (by simp)).trans z10
          have q0' := (hG.cell (p := ⟨w.heap.size, 0, none⟩) (st5.lt 2 rfl) (by simp)).trans q0
          have q1' := (hG.cell (p := ⟨w.heap.size, 1, none⟩) (st5.lt 2 rfl) (by simp)).trans q1
          have q2' := (hG.cell (p := ⟨w.heap.size, 2, none⟩) (st5.lt 2 rfl) (by simp)).trans q2
          have q3' := (hG.cell (p := ⟨w.heap.size, 3, none⟩) (st5.lt 2 rfl) (by simp)).trans q3
          go_simp
        · intro a u _ hf
          simp [facts, Need.fact, Ent.val, Act.eval] at hf
          go_simp
        · intro a u _ hf
          simp [facts, Need.fact, Ent.val, Act.eval] at hf
          go_simp
        · intro a u _ hf
          simp [facts, Need.fact, Ent.val, Act.eval] at hf
          go_simp
        · intro a u _ hf
          simp [facts, Need.fact, Ent.val, Act.eval] at hf
          go_simp
        · intro a u hG hf
          simp [facts, Need.fact, Ent.val, Act.eval] at hf
          have y0' := (hG.cell (p := ⟨b11, 0, none⟩) (st5.lt 0 rfl) (by simp)).trans y0
          have y1' := (hG.cell (p := ⟨b11, 1, none⟩) (st5.lt 0 rfl) (by simp)).trans y1
          have y2' := (hG.cell (p := ⟨b11, 2, none⟩) (st5.lt 0 rfl) (by simp)).trans y2
          have y4' := (hG.cell (p := ⟨b11, 4, none⟩) (st5.lt 0 rfl) (by simp)).trans y4
          have y5' := (hG.cell (p := ⟨b11, 5, none⟩) (st5.lt 0 rfl) (by simp)).trans y5
          have y6' := (hG.cell (p := ⟨b11, 6, none⟩) (st5.lt 0 rfl) (by simp)).trans y6
          have y7' := (hG.cell (p := ⟨b11, 7, none⟩) (st5.lt 0 rfl) (by simp)).trans y7
          have y8' := (hG.cell (p := ⟨b11, 8, none⟩) (st5.lt 0 rfl) (by simp)).trans y8
          have y10' := (hG.cell (p := ⟨b11, 10, none⟩) (st5.lt 0 rfl) (by simp)).trans y10
          have z0' := (hG.cell (p := ⟨b10, 0, none⟩) (st5.lt 1 rfl) (by simp)).trans z0
          have z1' := (hG.cell (p := ⟨b10, 1, none⟩) (st5.lt 1 rfl) (by simp)).trans z1
          have z2' := (hG.cell (p := ⟨b10, 2, none⟩) (st5.lt 1 rfl) (by simp)).trans z2
          have z4' := (hG.cell (p := ⟨b10, 4, none⟩) (st5.lt 1 rfl) (by simp)).trans z4
          have z5' := (hG.cell (p := ⟨b10, 5, none⟩) (st5.lt 1 rfl) (by simp)).trans z5
          have z6' := (hG.cell (p := ⟨b10, 6, none⟩) (st5.lt 1 rfl) (by simp)).trans z6
          have z7' := (hG.cell (p := ⟨b10, 7, none⟩) (st5.lt 1 rfl) (by simp)).trans z7
          have z8' := (hG.cell (p := ⟨b10, 8, none⟩) (st5.lt 1 rfl) (by simp)).trans z8
          have z10' := (hG.cell (p := ⟨b10, 10, none⟩) (st5.lt 1 rfl) (by simp)).trans z10
          have q0' := (hG.cell (p := ⟨w.heap.size, 0, none⟩) (st5.lt 2 rfl) (by simp)).trans q0
          have q1' := (hG.cell (p := ⟨w.heap.size, 1, none⟩) (st5.lt 2 rfl) (by simp)).trans q1
          have q2' := (hG.cell (p := ⟨w.heap.size, 2, none⟩) (st5.lt 2 rfl) (by simp)).trans q2
          have q3' := (hG.cell (p := ⟨w.heap.size, 3, none⟩) (st5.lt 2 rfl) (by simp)).trans q3
          go_simp
        · intro a u _ hf
          simp [facts, Need.fact, Ent.val, Act.eval] at hf
          go_simp
        · intro a u hG hf
          simp [facts, Need.fact, Ent.val, Act.eval] at hf
          have y0' := (hG.cell (p := ⟨b11, 0, none⟩) (st5.lt 0 rfl) (by simp)).trans y0
          have y1' := (hG.cell (p := ⟨b11, 1, none⟩) (st5.lt 0 rfl) (by simp)).trans y1
          have y2' := (hG.cell (p := ⟨b11, 2, none⟩) (st5.lt 0 rfl) (by simp)).trans y2
          have y4' := (hG.cell (p := ⟨b11, 4, none⟩) (st5.lt 0 rfl) (by simp)).trans y4
          have y5' := (hG.cell (p := ⟨b11, 5, none⟩) (st5.lt 0 rfl) (by simp)).trans y5
          have y6' := (hG.cell (p := ⟨b11, 6, none⟩) (st5.lt 0 rfl) (by simp)).trans y6
          have y7' := (hG.cell (p := ⟨b11, 7, none⟩) (st5.lt 0 rfl) (by simp)).trans y7
          have y8' := (hG.cell (p := ⟨b11, 8, none⟩) (st5.lt 0 rfl) (by simp)).trans y8
          have y10' := (hG.cell (p := ⟨b11, 10, none⟩) (st5.lt 0 rfl) (by simp)).trans y10
          have z0' := (hG.cell (p := ⟨b10, 0, none⟩) (st5.lt 1 rfl) (by simp)).trans z0
          have z1' := (hG.cell (p := ⟨b10, 1, none⟩) (st5.lt 1 rfl) (by simp)).trans z1
          have z2' := (hG.cell (p := ⟨b10, 2, none⟩) (st5.lt 1 rfl) (by simp)).trans z2
          have z4' := (hG.cell (p := ⟨b10, 4, none⟩) (st5.lt 1 rfl) (by simp)).trans z4
          have z5' := (hG.cell (p := ⟨b10, 5, none⟩) (st5.lt 1 rfl) (by simp)).trans z5
          have z6' := (hG.cell (p := ⟨b10, 6, none⟩) (st5.lt 1 rfl) (by simp)).trans z6
          have z7' := (hG.cell (p := ⟨b10, 7, none⟩) (st5.lt 1 rfl) (by simp)).trans z7
          have z8' := (hG.cell (p := ⟨b10, 8, none⟩) (st5.lt 1 rfl) (by simp)).trans z8
          have z10' := (hG.cell (p := ⟨b10, 10, none⟩) (st5.lt 1 rfl) (by simp)).trans z10
          have q0' := (hG.cell (p := ⟨w.heap.size, 0, none⟩) (st5.lt 2 rfl) (by simp)).trans q0
          have q1' := (hG.cell (p := ⟨w.heap.size, 1, none⟩) (st5.lt 2 rfl) (by simp)).trans q1
          have q2' := (hG.cell (p := ⟨w.heap.size, 2, none⟩) (st5.lt 2 rfl) (by simp)).trans q2
          have q3' := (hG.cell (p := ⟨w.heap.size, 3, none⟩) (st5.lt 2 rfl) (by simp)).trans q3
          go_simp
        · intro a u _ hf
          simp [facts, Need.fact, Ent.val, Act.eval] at hf
          go_simp
        · intro a u _ hf
          simp [facts, Need.fact, Ent.val, Act.eval] at hf
          go_simp
        · intro a u _ hf
          simp [facts, Need.fact, Ent.val, Act.eval] at hf
          go_simp
        · intro a u _ hf
          simp [facts, Need.fact, Ent.val, Act.eval] at hf
          go_simp
        · intro a u hG hf
          simp [facts, Need.fact, Ent.val, Act.eval] at hf
          have y0' := (hG.cell (p := ⟨b11, 0, none⟩) (st5.lt 0 rfl) (by simp)).trans y0
          have y1' := (hG.cell (p := ⟨b11, 1, none⟩) (st5.lt 0 rfl) (by simp)).trans y1
          have y2' := (hG.cell (p := ⟨b11, 2, none⟩) (st5.lt 0 rfl) (by simp)).trans y2
          have y4' := (hG.cell (p := ⟨b11, 4, none⟩) (st5.lt 0 rfl) (by simp)).trans y4
          have y5' := (hG.cell (p := ⟨b11, 5, none⟩) (st5.lt 0 rfl) (by simp)).trans y5
          have y6' := (hG.cell (p := ⟨b11, 6, none⟩) (st5.lt 0 rfl) (by simp)).trans y6
          have y7' := (hG.cell (p := ⟨b11, 7, none⟩) (st5.lt 0 rfl) (by simp)).trans y7
          have y8' := (hG.cell (p := ⟨b11, 8, none⟩) (st5.lt 0 rfl) (by simp)).trans y8
          have y10' := (hG.cell (p := ⟨b11, 10, none⟩) (st5.lt 0 rfl) (by simp)).trans y10
          have z0' := (hG.cell (p := ⟨b10, 0, none⟩) (st5.lt 1 rfl) (by simp)).trans z0
          have z1' := (hG.cell (p := ⟨b10, 1, none⟩) (st5.lt 1 rfl) (by simp)).trans z1
          have z2' := (hG.cell (p := ⟨b10, 2, none⟩) (st5.lt 1 rfl) (by simp)).trans z2
          have z4' := (hG.cell (p := ⟨b10, 4, none⟩) (st5.lt 1 rfl) (by simp)).trans z4
          have z5' := (hG.cell (p := ⟨b10, 5, none⟩) (st5.lt 1 rfl) (by simp)).trans z5
          have z6' := (hG.cell (p := ⟨b10, 6, none⟩) (st5.lt 1 rfl) (by simp)).trans z6
          have z7' := (hG.cell (p := ⟨b10, 7, none⟩) (st5.lt 1 rfl) (by simp)).trans z7
          have z8' := (hG.cell (p := ⟨b10, 8, none⟩) (st5.lt 1 rfl) (by simp)).trans z8
          have z10' := (hG.cell (p := ⟨b10, 10, none⟩) (st5.lt 1 rfl) (by simp)).trans z10
          have q0' := (hG.cell (p := ⟨w.heap.size, 0, none⟩) (st5.lt 2 rfl) (by simp)).trans q0
          have q1' := (hG.cell (p := ⟨w.heap.size, 1, none⟩) (st5.lt 2 rfl) (by simp)).trans q1
          have q2' := (hG.cell (p := ⟨w.heap.size, 2, none⟩) (st5.lt 2 rfl) (by simp)).trans q2
          have q3' := (hG.cell (p := ⟨w.heap.size, 3, none⟩) (st5.lt 2 rfl) (by simp)).trans q3
          go_simp
        · intro a u _ hf
          simp [facts, Need.fact, Ent.val, Act.eval] at hf
          go_simp
        · intro a u hG hf
          simp [facts, Need.fact, Ent.val, Act.eval] at hf
          have y0' := (hG.cell (p := ⟨b11, 0, none⟩) (st5.lt 0 rfl) (by simp)).trans y0
          have y1' := (hG.cell (p := ⟨b11, 1, none⟩) (st5.lt 0 rfl) (by simp)).trans y1
          have y2' := (hG.cell (p := ⟨b11, 2, none⟩) (st5.lt 0 rfl) (by simp)).trans y2
          have y4' := (hG.cell (p := ⟨b11, 4, none⟩) (st5.lt 0 rfl) (by simp)).trans y4
          have y5' := (hG.cell (p := ⟨b11, 5, none⟩) (st5.lt 0 rfl) (by simp)).trans y5
          have y6' := (hG.cell (p := ⟨b11, 6, none⟩) (st5.lt 0 rfl) (by simp)).trans y6
          have y7' := (hG.cell (p := ⟨b11, 7, none⟩) (st5.lt 0 rfl) (by simp)).trans y7
          have y8' := (hG.cell (p := ⟨b11, 8, none⟩) (st5.lt 0 rfl) (by simp)).trans y8
          have y10' := (hG.cell (p := ⟨b11, 10, none⟩) (st5.lt 0 rfl) (by simp)).trans y10
          have z0' := (hG.cell (p := ⟨b10, 0, none⟩) (st5.lt 1 rfl) (by simp)).trans z0
          have z1' := (hG.cell (p := ⟨b10, 1, none⟩) (st5.lt 1 rfl) (by simp)).trans z1
          have z2' := (hG.cell (p := ⟨b10, 2, none⟩) (st5.lt 1 rfl) (by simp)).trans z2
          have z4' := (hG.cell (p := ⟨b10, 4, none⟩) (st5.lt 1 rfl) (by simp)).trans z4
          have z5' := (hG.cell (p := ⟨b10, 5, none⟩) (st5.lt 1 rfl) (by simp)).trans z5
          have z6' := (hG.cell (p := ⟨b10, 6, none⟩) (st5.lt 1 rfl) (by simp)).trans z6
          have z7' := (hG.cell (p := ⟨b10, 7, none⟩) (st5.lt 1 rfl) (by simp)).trans z7
          have z8' := (hG.cell (p := ⟨b10, 8, none⟩) (st5.lt 1 rfl) (by simp)).trans z8
          have z10' := (hG.cell (p := ⟨b10, 10, none⟩) (st5.lt 1 rfl) (by simp)).trans z10
          have q0' := (hG.cell (p := ⟨w.heap.size, 0, none⟩) (st5.lt 2 rfl) (by simp)).trans q0
          have q1' := (hG.cell (p := ⟨w.heap.size, 1, none⟩) (st5.lt 2 rfl) (by simp)).trans q1
          have q2' := (hG.cell (p := ⟨w.heap.size, 2, none⟩) (st5.lt 2 rfl) (by simp)).trans q2
          have q3' := (hG.cell (p := ⟨w.heap.size, 3, none⟩) (st5.lt 2 rfl) (by simp)).trans q3
          go_simp
        · intro a u _ hf
          simp [facts, Need.fact, Ent.val, Act.eval] at hf
          go_simp
        · intro a u _ hf
          simp [facts, Need.fact, Ent.val, Act.eval] at hf
          go_simp
        · intro a u _ hf
          simp [facts, Need.fact, Ent.val, Act.eval] at hf
          go_simp
        · intro a u _ hf
          simp [facts, Need.fact, Ent.val, Act.eval] at hf
          go_simp
        · intro a u hG hf
          simp [facts, Need.fact, Ent.val, Act.eval] at hf
          have y0' := (hG.cell (p := ⟨b11, 0, none⟩) (st5.lt 0 rfl) (by simp)).trans y0
          have y1' := (hG.cell (p := ⟨b11, 1, none⟩) (st5.lt 0 rfl) (by simp)).trans y1
          have y2' := (hG.cell (p := ⟨b11, 2, none⟩) (st5.lt 0 rfl) (by simp)).trans y2
          have y4' := (hG.cell (p := ⟨b11, 4, none⟩) (st5.lt 0 rfl) (by simp)).trans y4
          have y5' := (hG.cell (p := ⟨b11, 5, none⟩) (st5.lt 0 rfl) (by simp)).trans y5
          have y6' := (hG.cell (p := ⟨b11, 6, none⟩) (st5.lt 0 rfl) (by simp)).trans y6
          have y7' := (hG.cell (p := ⟨b11, 7, none⟩) (st5.lt 0 rfl) (by simp)).trans y7
          have y8' := (hG.cell (p := ⟨b11, 8, none⟩) (st5.lt 0 rfl) (by simp)).trans y8
          have y10' := (hG.cell (p := ⟨b11, 10, none⟩) (st5.lt 0 rfl) (by simp)).trans y10
          have z0' := (hG.cell (p := ⟨b10, 0, none⟩) (st5.lt 1 rfl) (by simp)).trans z0
          have z1' := (hG.cell (p := ⟨b10, 1, none⟩) (st5.lt 1 rfl) (by simp)).trans z1
          have z2' := (hG.cell (p := ⟨b10, 2, none⟩) (st5.lt 1 rfl) (by simp)).trans z2
          have z4' := (hG.cell (p := ⟨b10, 4, none⟩) (st5.lt 1 rfl) (by simp)).trans z4
          have z5' := (hG.cell (p := ⟨b10, 5, none⟩) (st5.lt 1 rfl) (by simp)).trans z5
          have z6' := (hG.cell (p := ⟨b10, 6, none⟩) (st5.lt 1 rfl) (by simp)).trans z6
          have z7' := (hG.cell (p := ⟨b10, 7, none⟩) (st5.lt 1 rfl) (by simp)).trans z7
          have z8' := (hG.cell (p := ⟨b10, 8, none⟩) (st5.lt 1 rfl) (by simp)).trans z8
          have z10' := (hG.cell (p := ⟨b10, 10, none⟩) (st5.lt 1 rfl) (by simp)).trans z10
          have q0' := (hG.cell (p := ⟨w.heap.size, 0, none⟩) (st5.lt 2 rfl) (by simp)).trans q0
          have q1' := (hG.cell (p := ⟨w.heap.size, 1, none⟩) (st5.lt 2 rfl) (by simp)).trans q1
          have q2' := (hG.cell (p := ⟨w.heap.size, 2, none⟩) (st5.lt 2 rfl) (by simp)).trans q2
          have q3' := (hG.cell (p := ⟨w.heap.size, 3, none⟩) (st5.lt 2 rfl) (by simp)).trans q3
          go_simp
        · intro a u hG hf
          simp [facts, Need.fact, Ent.val, Act.eval] at hf
          have y0' := (hG.cell (p := ⟨b11, 0, none⟩) (st5.lt 0 rfl) (by simp)).trans y0
          have y1' := (hG.cell (p := ⟨b11, 1, none⟩) (st5.lt 0 rfl) (by simp)).trans y1
          have y2' := (hG.cell (p := ⟨b11, 2, none⟩) (st5.lt 0 rfl) (by simp)).trans y2
          have y4' := (hG.cell (p := ⟨b11, 4, none⟩) (st5.lt 0 rfl) (by simp)).trans y4
          have y5' := (hG.cell (p := ⟨b11, 5, none⟩) (st5.lt 0 rfl) (by simp)).trans y5
          have y6' := (hG.cell (p := ⟨b11, 6, none⟩) (st5.lt 0 rfl) (by simp)).trans y6
          have y7' := (hG.cell (p := ⟨b11, 7, none⟩) (st5.lt 0 rfl) (by simp)).trans y7
          have y8' := (hG.cell (p := ⟨b11, 8, none⟩) (st5.lt 0 rfl) (by simp)).trans y8
          have y10' := (hG.cell (p := ⟨b11, 10, none⟩) (st5.lt 0 rfl) (by simp)).trans y10
          have z0' := (hG.cell (p := ⟨b10, 0, none⟩) (st5.lt 1 rfl) (by simp)).trans z0
          have z1' := (hG.cell (p := ⟨b10, 1, none⟩) (st5.lt 1 rfl) (by simp)).trans z1
          have z2' := (hG.cell (p := ⟨b10, 2, none⟩) (st5.lt 1 rfl) (by simp)).trans z2
          have z4' := (hG.cell (p := ⟨b10, 4, none⟩) (st5.lt 1 rfl) (by simp)).trans z4
          have z5' := (hG.cell (p := ⟨b10, 5, none⟩) (st5.lt 1 rfl) (by simp)).trans z5
          have z6' := (hG.cell (p := ⟨b10, 6, none⟩) (st5.lt 1 rfl) (by simp)).trans z6
          have z7' := (hG.cell (p := ⟨b10, 7, none⟩) (st5.lt 1 rfl) (by simp)).trans z7
          have z8' := (hG.cell (p := ⟨b10, 8, none⟩) (st5.lt 1 rfl) (by simp)).trans z8
          have z10' := (hG.cell (p := ⟨b10, 10, none⟩) (st5.lt 1 rfl) (by simp)).trans z10
          have q0' := (hG.cell (p := ⟨w.heap.size, 0, none⟩) (st5.lt 2 rfl) (by simp)).trans q0
          have q1' := (hG.cell (p := ⟨w.heap.size, 1, none⟩) (st5.lt 2 rfl) (by simp)).trans q1
          have q2' := (hG.cell (p := ⟨w.heap.size, 2, none⟩) (st5.lt 2 rfl) (by simp)).trans q2
          have q3' := (hG.cell (p := ⟨w.heap.size, 3, none⟩) (st5.lt 2 rfl) (by simp)).trans q3
          go_simp
        · intro a u _ hf
          simp [facts, Need.fact, Ent.val, Act.eval] at hf
          go_simp
        · intro a u hG hf
          simp [facts, Need.fact, Ent.val, Act.eval] at hf
          have y0' := (hG.cell (p := ⟨b11, 0, none⟩) (st5.lt 0 rfl) (by simp)).trans y0
          have y1' := (hG.cell (p := ⟨b11, 1, none⟩) (st5.lt 0 rfl) (by simp)).trans y1
          have y2' := (hG.cell (p := ⟨b11, 2, none⟩) (st5.lt 0 rfl) (by simp)).trans y2
          have y4' := (hG.cell (p := ⟨b11, 4, none⟩) (st5.lt 0 rfl) (by simp)).trans y4
          have y5' := (hG.cell (p := ⟨b11, 5, none⟩) (st5.lt 0 rfl) (by simp)).trans y5
          have y6' := (hG.cell (p := ⟨b11, 6, none⟩) (st5.lt 0 rfl) (by simp)).trans y6
          have y7' := (hG.cell (p := ⟨b11, 7, none⟩) (st5.lt 0 rfl) (by simp)).trans y7
          have y8' := (hG.cell (p := ⟨b11, 8, none⟩) (st5.lt 0 rfl) (by simp)).trans y8
          have y10' := (hG.cell (p := ⟨b11, 10, none⟩) (st5.lt 0 rfl) (by simp)).trans y10
          have z0' := (hG.cell (p := ⟨b10, 0, none⟩) (st5.lt 1 rfl) (by simp)).trans z0
          have z1' := (hG.cell (p := ⟨b10, 1, none⟩) (st5.lt 1 rfl) (by simp)).trans z1
          have z2' := (hG.cell (p := ⟨b10, 2, none⟩) (st5.lt 1 rfl) (by simp)).trans z2
          have z4' := (hG.cell (p := ⟨b10, 4, none⟩) (st5.lt 1 rfl) (by simp)).trans z4
          have z5' := (hG.cell (p := ⟨b10, 5, none⟩) (st5.lt 1 rfl) (by simp)).trans z5
          have z6' := (hG.cell (p := ⟨b10, 6, none⟩) (st5.lt 1 rfl) (by simp)).trans z6
          have z7' := (hG.cell (p := ⟨b10, 7, none⟩) (st5.lt 1 rfl) (by simp)).trans z7
          have z8' := (hG.cell (p := ⟨b10, 8, none⟩) (st5.lt 1 rfl) (by simp)).trans z8
          have z10' := (hG.cell (p := ⟨b10, 10, none⟩) (st5.lt 1 rfl) (by simp)).trans z10
          have q0' := (hG.cell (p := ⟨w.heap.size, 0, none⟩) (st5.lt 2 rfl) (by simp)).trans q0
          have q1' := (hG.cell (p := ⟨w.heap.size, 1, none⟩) (st5.lt 2 rfl) (by simp)).trans q1
          have q2' := (hG.cell (p := ⟨w.heap.size, 2, none⟩) (st5.lt 2 rfl) (by simp)).trans q2
          have q3' := (hG.cell (p := ⟨w.heap.size, 3, none⟩) (st5.lt 2 rfl) (by simp)).trans q3
          go_simp
        · intro a u _ hf
          simp [facts, Need.fact, Ent.val, Act.eval] at hf
          refine ⟨_, _, by go_simp, (hvr _).mono ?_⟩
          rintro e w' ⟨rfl, hb⟩
          exact ⟨_, rfl, hb, rfl⟩
        · intro a u _ hf
          simp [facts, Need.fact, Ent.val, Act.eval] at hf
          go_simp
        · intro a u _ hf
          simp [facts, Need.fact, Ent.val, Act.eval] at hf
          go_simp
        · intro a u _ hf
          simp [facts, Need.fact, Ent.val, Act.eval] at hf
          go_simp
        · intro a u _ hf
          simp [facts, Need.fact, Ent.val, Act.eval] at hf
          go_simp
        · intro a u hG hf
          simp [facts, Need.fact, Ent.val, Act.eval] at hf
          have y0' := (hG.cell (p := ⟨b11, 0, none⟩) (st5.lt 0 rfl) (by simp)).trans y0
          have y1' := (hG.cell (p := ⟨b11, 1, none⟩) (st5.lt 0 rfl) (by simp)).trans y1
          have y2' := (hG.cell (p := ⟨b11, 2, none⟩) (st5.lt 0 rfl) (by simp)).trans y2
          have y4' := (hG.cell (p := ⟨b11, 4, none⟩) (st5.lt 0 rfl) (by simp)).trans y4
          have y5' := (hG.cell (p := ⟨b11, 5, none⟩) (st5.lt 0 rfl) (by simp)).trans y5
          have y6' := (hG.cell (p := ⟨b11, 6, none⟩) (st5.lt 0 rfl) (by simp)).trans y6
          have y7' := (hG.cell (p := ⟨b11, 7, none⟩) (st5.lt 0 rfl) (by simp)).trans y7
          have y8' := (hG.cell (p := ⟨b11, 8, none⟩) (st5.lt 0 rfl) (by simp)).trans y8
          have y10' := (hG.cell (p := ⟨b11, 10, none⟩) (st5.lt 0 rfl) (by simp)).trans y10
          have z0' := (hG.cell (p := ⟨b10, 0, none⟩) (st5.lt 1 rfl) (by simp)).trans z0
          have z1' := (hG.cell (p := ⟨b10, 1, none⟩) (st5.lt 1 rfl) (by simp)).trans z1
          have z2' := (hG.cell (p := ⟨b10, 2, none⟩) (st5.lt 1 rfl) (by simp)).trans z2
          have z4' := (hG.cell (p := ⟨b10, 4, none⟩) (st5.lt 1 rfl) (by simp)).trans z4
          have z5' := (hG.cell (p := ⟨b10, 5, none⟩) (st5.lt 1 rfl) (by simp)).trans z5
          have z6' := (hG.cell (p := ⟨b10, 6, none⟩) (st5.lt 1 rfl) (by simp)).trans z6
          have z7' := (hG.cell (p := ⟨b10, 7, none⟩) (st5.lt 1 rfl) (by simp)).trans z7
          have z8' := (hG.cell (p := ⟨b10, 8, none⟩) (st5.lt 1 rfl) (by simp)).trans z8
          have z10' := (hG.cell (p := ⟨b10, 10, none⟩) (st5.lt 1 rfl) (by simp)).trans z10
          have q0' := (hG.cell (p := ⟨w.heap.size, 0, none⟩) (st5.lt 2 rfl) (by simp)).trans q0
          have q1' := (hG.cell (p := ⟨w.heap.size, 1, none⟩) (st5.lt 2 rfl) (by simp)).trans q1
          have q2' := (hG.cell (p := ⟨w.heap.size, 2, none⟩) (st5.lt 2 rfl) (by simp)).trans q2
          have q3' := (hG.cell (p := ⟨w.heap.size, 3, none⟩) (st5.lt 2 rfl) (by simp)).trans q3
          go_simp
        · intro a u _ hf
          simp [facts, Need.fact, Ent.val, Act.eval] at hf
          go_simp
        · intro a u _ hf
          simp [facts, Need.fact, Ent.val, Act.eval] at hf
          go_simp
        · intro a u hG hf
          simp [facts, Need.fact, Ent.val, Act.eval] at hf
          have y0' := (hG.cell (p := ⟨b11, 0, none⟩) (st5.lt 0 rfl) (by simp)).trans y0
          have y1' := (hG.cell (p := ⟨b11, 1, none⟩) (st5.lt 0 rfl) (by simp)).trans y1
          have y2' := (hG.cell (p := ⟨b11, 2, none⟩) (st5.lt 0 rfl) (by simp)).trans y2
          have y4' := (hG.cell (p := ⟨b11, 4, none⟩) (st5.lt 0 rfl) (by simp)).trans y4
          have y5' := (hG.cell (p := ⟨b11, 5, none⟩) (st5.lt 0 rfl) (by simp)).trans y5
          have y6' := (hG.cell (p := ⟨b11, 6, none⟩) (st5.lt 0 rfl) (by simp)).trans y6
          have y7' := (hG.cell (p := ⟨b11, 7, none⟩) (st5.lt 0 rfl) (by simp)).trans y7
          have y8' := (hG.cell (p := ⟨b11, 8, none⟩) (st5.lt 0 rfl) (by simp)).trans y8
          have y10' := (hG.cell (p := ⟨b11, 10, none⟩) (st5.lt 0 rfl) (by simp)).trans y10
          have z0' := (hG.cell (p := ⟨b10, 0, none⟩) (st5.lt 1 rfl) (by simp)).trans z0
          have z1' := (hG.cell (p := ⟨b10, 1, none⟩) (st5.lt 1 rfl) (by simp)).trans z1
          have z2' := (hG.cell (p := ⟨b10, 2, none⟩) (st5.lt 1 rfl) (by simp)).trans z2
          have z4' := (hG.cell (p := ⟨b10, 4, none⟩) (st5.lt 1 rfl) (by simp)).trans z4
          have z5' := (hG.cell (p := ⟨b10, 5, none⟩) (st5.lt 1 rfl) (by simp)).trans z5
          have z6' := (hG.cell (p := ⟨b10, 6, none⟩) (st5.lt 1 rfl) (by simp)).trans z6
          have z7' := (hG.cell (p := ⟨b10, 7, none⟩) (st5.lt 1 rfl) (by simp)).trans z7
          have z8' := (hG.cell (p := ⟨b10, 8, none⟩) (st5.lt 1 rfl) (by simp)).trans z8
          have z10' := (hG.cell (p := ⟨b10, 10, none⟩) (st5.lt 1 rfl) (by simp)).trans z10
          have q0' := (hG.cell (p := ⟨w.heap.size, 0, none⟩) (st5.lt 2 rfl) (by simp)).trans q0
          have q1' := (hG.cell (p := ⟨w.heap.size, 1, none⟩) (st5.lt 2 rfl) (by simp)).trans q1
          have q2' := (hG.cell (p := ⟨w.heap.size, 2, none⟩) (st5.lt 2 rfl) (by simp)).trans q2
          have q3' := (hG.cell (p := ⟨w.heap.size, 3, none⟩) (st5.lt 2 rfl) (by simp)).trans q3
          go_simp
        · intro a u _ hf
          simp [facts, Need.fact, Ent.val, Act.eval] at hf
          go_simp
        · intro a u _ hf
          simp [facts, Need.fact, Ent.val, Act.eval] at hf
          go_simp
        · intro a u _ hf
          simp [facts, Need.fact, Ent.val, Act.eval] at hf
          go_simp
        intro u lw hw wc hKp hE hI hD
        simp only [allE, Ent.val] at hE
        obtain ⟨u0, u1, u2, u3, u4, u5, u6, u7, u8, u9, u10, u11, u12, u13, u14, u15, u16, u17, u18, u19, u20, u21, u22, u23, u24, u25, u26, u27, u28, u29, u30, u31, u32, u33, u34, u35, u36, u37, u38, u39, u40, u41, u42, u43, -⟩ := hE
        simp only [Nat.reduceAdd] at u0 u1 u2 u3 u4 u5 u6 u7 u8 u9 u10 u11 u12 u13 u14 u15 u16 u17 u18 u19 u20 u21 u22 u23 u24 u25 u26 u27 u28 u29 u30 u31 u32 u33 u34 u35 u36 u37 u38 u39 u40 u41 u42 u43
        simp only [allPut, Act.put, Nat.reduceAdd, u0, u1, u2, u3, u4, u5, u6, u7, u8, u9, u10, u11, u12, u13, u14, u15, u16, u17, u18, u19, u20, u21, u22, u23, u24, u25, u26, u27, u28, u29, u30, u31, u32, u33, u34, u35, u36, u37, u38, u39, u40, u41, u42, u43]
        try simp only [List.setIfInBounds_toArray, List.set_cons_zero, List.set_cons_succ]
        clear hI hD u0 u1 u2 u3 u4 u5 u6 u7 u8 u9 u10 u11 u12 u13 u14 u15 u16 u17 u18 u19 u20 u21 u22 u23 u24 u25 u26 u27 u28 u29 u30 u31 u32 u33 u34 u35 u36 u37 u38 u39 u40 u41 u42 u43
        have st9 := st5.keep hKp (fun i x _ => by simp) (fun x hx => by simp at hx)
        have s9 := s5.below hKp.below
        have sx9 := SlR.below hKp.below sx6
        have sy9 := SlR.below hKp.below sy6
        clear hKp st5 s5 sx6 sy6 hea hvr y0 y1 y2 y4 y5 y6 y7 y8 y10 z0 z1 z2 z4 z5 z6 z7 z8 z10 q0 q1 q2 q3
        have p2 := st9.cell 1 rfl 2
        have q0 := st9.cell 2 rfl 0
        have q1 := st9.cell 2 rfl 1
        have q2 := st9.cell 2 rfl 2
        have q3 := st9.cell 2 rfl 3
        simp only [List.getElem?_toArray, List.getElem?_cons_zero, List.getElem?_cons_succ] at p2 q0 q1 q2 q3
        go_wp2_with (go_at_call 13; refine JR.StopM.out ?_)
        refine ⟨?_⟩
        refine (htu _ _ sx9.p).mono ?_
        rintro e w7 ⟨v7, rfl, sm, hb⟩
        have st10 := st9.ext hb
        have s10 := s9.below hb
        have sy10 := SlR.below hb sy9
        clear hb st9 s9 sx9 sy9 htu p2 q0 q1 q2 q3
        obtain ⟨A3, c3, rfl, km⟩ := sm
        obtain ⟨A4, c4, e4, ky⟩ := sy10
        rw [List.length_map] at e4
        cases e4
        rw [List.length_map]
        go_wp2
        go_loopw [97] (fun i wr => ∃ k : Nat, k ≤ l.length ∧ i = .int .i64 k ∧ Below w7.heap.size w7 wr) (fun i _ => l.length - (intOf i).toNat)
        case atStart => exact ⟨0, Nat.zero_le _, rfl, Below.refl _ _⟩
        case round =>
          obtain ⟨k, hkl, rfl, hnx⟩ := hrel
          rcases Nat.lt_or_ge k l.length with hlt | hge
          · obtain ⟨p, hp⟩ : ∃ p, (l.map (tpt KK S DX DY))[k]? = some p := ⟨(l.map (tpt KK S DX DY))[k]'(by simpa using hlt), by simp [hlt]⟩
            obtain ⟨b3, rfl, -, -, g1, g2⟩ := km k p hp
            obtain ⟨b4, rfl, -, -, g3, g4⟩ := ky k p hp
            have g1 := (hnx.cell (World.block_lt_of_cell? _ _ g1)).trans g1
            have g2 := (hnx.cell (World.block_lt_of_cell? _ _ g2)).trans g2
            have g3 := (hnx.cell (World.block_lt_of_cell? _ _ g3)).trans g3
            have g4 := (hnx.cell (World.block_lt_of_cell? _ _ g4)).trans g4
            have hr := (hnx.block b11 (st10.lt 0 rfl)).trans (st10.known 0 _ rfl)
            have y2 := cellAt hr 2
            simp only [Nat.zero_add, List.getElem?_toArray, List.getElem?_cons_zero, List.getElem?_cons_succ] at y2 g1 g2 g3 g4
            have i1 : (k : Int) < (l.length : Int) := by omega
            clear km ky hp hr st10 s10 hclk
            go_upto_region 14 with (fail)
            go_quiet (fail)
            go_wp2
            go_roundw
            case rel => exact ⟨k + 1, by omega, by go_num, below_drewN hnx _⟩
            case measure => simp [intOf]; omega
          · have hkk : k = l.length := by omega
            subst hkk
            have st11 := st10.ext hnx
            have s11 := s10.below hnx
            clear st10 s10 hnx km ky
            have hvo := varyOf_n l l1 _ wr s11
            go_wp2_with (go_at_call 7; refine JR.StopM.out ?_)
            refine ⟨?_⟩
            refine hvo.mono ?_
            rintro e w8 ⟨v8, rfl, sv, hb⟩
            have st12 := st11.ext hb
            clear hb st11 s11 hvo
            go_wp2_with (go_at_call 11; refine JR.StopM.out ?_)
            refine ⟨?_⟩
            refine (vArea_c l (by omega) hbl _ _ sv.p).mono ?_
            rintro e w9 ⟨rfl, hb⟩
            have st13 := st12.ext hb
            clear hb st12 sv
            by_cases hz : area l l.length = 0
            · rw [hz]
              clear hclk
              go_wp2_with (go_at_call 6; refine JR.StopM.out ?_)
              refine ⟨?_⟩
              refine (awake_c _).mono ?_
              rintro e wA ⟨rfl, hbA⟩
              have stA := st13.ext hbA
              go_wp2
              go_ret
              exact ⟨rfl, stA.hb⟩
            · have hc2 := hclk hz
              clear hclk hbl
              generalize area l l.length = ar at *
              have y11 := st13.cell 0 rfl 11
              have z11 := st13.cell 1 rfl 11
              have q0 := st13.cell 2 rfl 0
              simp only [List.getElem?_toArray, List.getElem?_cons_zero, List.getElem?_cons_succ] at y11 z11 q0
              by_cases h4 : (4 : Int) ≤ KK
              · rw [decide_eq_true h4, Bool.xor_true] at hc2
                subst hc2
                have h4' := decide_eq_true h4
                cases cw with
                | true =>
                  go_wp2_with (go_at_call 6; refine JR.StopM.out ?_)
                  refine ⟨?_⟩
                  refine (awake_c _).mono ?_
                  rintro e wA ⟨rfl, hbA⟩
                  have stA := st13.ext hbA
                  go_wp2
                  go_ret
                  exact ⟨rfl, stA.hb⟩
                | false =>
                  go_wp2_with (go_at_call 6; refine JR.StopM.out ?_)
                  refine ⟨?_⟩
                  refine (awake_c _).mono ?_
                  rintro e wA ⟨rfl, hbA⟩
                  have stA := st13.ext hbA
                  go_wp2
                  go_ret
                  exact ⟨rfl, stA.hb⟩
              · rw [decide_eq_false h4, Bool.xor_false] at hc2
                subst hc2
                have h4' := decide_eq_false h4
                cases cw2 with
                | true =>
                  go_wp2_with (go_at_call 6; refine JR.StopM.out ?_)
                  refine ⟨?_⟩
                  refine (awake_c _).mono ?_
                  rintro e wA ⟨rfl, hbA⟩
                  have stA := st13.ext hbA
                  go_wp2
                  go_ret
                  exact ⟨rfl, stA.hb⟩
                | false =>
                  go_wp2_with (go_at_call 6; refine JR.StopM.out ?_)
                  refine ⟨?_⟩
                  refine (awake_c _).mono ?_
                  rintro e wA ⟨rfl, hbA⟩
                  have stA := st13.ext hbA
                  go_wp2
                  go_ret
                  exact ⟨rfl, stA.hb⟩
      | false =>
        obtain ⟨ki, hki, hki2⟩ : ∃ ki : Nat, KD % 3 = ki ∧ ki ≤ 2 := ⟨KD % 3, rfl, by omega⟩
        have hrem : (KD : Int).tmod 3 = (ki : Int) := by rw [Int.tmod_eq_emod_of_nonneg (by omega)]; omega
        clear hki
        have hbl : ∀ p ∈ l, Bnd p := fun p hp => by have := hok p hp; unfold Bnd; omega
        have hbm : ∀ p ∈ l.map (tpt KK S DX DY), Bnd p := by
          intro p hp
          rw [List.mem_map] at hp
          obtain ⟨q, hq, rfl⟩ := hp
          have := tpt_bd KK S DX DY b2 b3 q (hok q hq)
          unfold Bnd; omega
        have hsx := fun u h => seriesOf_c ki hki2 false l hl12 h2l (fun h => (nomatch h)) hbl (.slice A0 l.length c0) u h
        have hsy := fun v u h => seriesOf_c ki hki2 false (l.map (tpt KK S DX DY)) (by simpa using hl12) (by simpa using h2l) (fun h => (nomatch h)) hbm v u h
        have htu := fun v u h => varyTurned_n KK S DX DY b0 b2 (by omega) l (fun p hp => by have := hok p hp; omega) (by omega) v u h
        unfold SoP at hsx hsy
        rw [box_turn b0 (by omega) l (by omega), nSeg_map (fun a b h => tpt_inj b0 b2.1 h), List.length_map, turn_conv b0 b2.1 l h2l] at hsy
        have hvr : ∀ u, _ := fun u => varyRect_c KK S DX DY (box l).1 (box l).2.1 (box l).2.2.1 (box l).2.2.2 b0 b2 (by omega) (by obtain ⟨-, ⟨p, hp, h1⟩, ⟨q, hq, h2⟩, -⟩ := box_spec l (by omega); have := hok p hp; have := hok q hq; omega) (by obtain ⟨-, -, -, ⟨p, hp, h1⟩, ⟨q, hq, h2⟩⟩ := box_spec l (by omega); have := hok p hp; have := hok q hq; omega) u
        simp only [mbx] at hsy
        have hclk : area l l.length ≠ 0 → decide (0 < cws (l.map (tpt KK S DX DY)) l.length) = (decide (0 < cws l l.length) ^^ decide (4 ≤ KK)) := fun h => turn_clock b0 b2.1 l (by omega) h
        generalize decide (0 < cws (l.map (tpt KK S DX DY)) l.length) = cw2 at *
        generalize decide (0 < cws l l.length) = cw at *
        generalize (!(cvs l l.length).1) = cv at *
        generalize rx0 KK S DX DY (box l).1 (box l).2.1 (box l).2.2.1 (box l).2.2.2 = r0 at *
        generalize ry0 KK S DX DY (box l).1 (box l).2.1 (box l).2.2.1 (box l).2.2.2 = r1 at *
        generalize rx1 KK S DX DY (box l).1 (box l).2.1 (box l).2.2.1 (box l).2.2.2 = r2 at *
        generalize ry1 KK S DX DY (box l).1 (box l).2.1 (box l).2.2.1 (box l).2.2.2 = r3 at *
        generalize (box l).1 = x0 at *
        generalize (box l).2.1 = x1 at *
        generalize (box l).2.2.1 = x2 at *
        generalize (box l).2.2.2 = x3 at *
        generalize nSeg false l = ns at *
        clear hok hbm
        have wk1 : IntKind.i64.wrap (ki : Int) = (ki : Int) := wrap_in _ (by omega) (by omega)
        have q0 := st2.cell 0 rfl 0
        have q1 := st2.cell 0 rfl 1
        have q2 := st2.cell 0 rfl 2
        have q3 := st2.cell 0 rfl 3
        simp only [List.getElem?_toArray, List.getElem?_cons_zero, List.getElem?_cons_succ] at q0 q1 q2 q3
        go_wp2_with (go_at_call 8; refine JR.StopM.out ?_)
        refine ⟨?_⟩
        refine (hsx _ s2).mono ?_
        rintro e w3 ⟨A1, c1, B1, m1, d1, bv1, bi1, rfl, sx3, hb⟩
        have st3 := (st2.ext hb).push rfl #[.int .i64 l.length, .int .i64 ns, .slice A1 l.length c1, .slice B1 m1 d1, .int .i64 x0, .int .i64 x1, .int .i64 x2, .int .i64 x3, .bool false, .bool bv1, .bool cv, .bool cw, .bool bi1] 32
        have s3 := s2.below (hb.trans ((Below.refl w3.heap.size w3).alloc (Nat.le_refl _) (.cells #[.int .i64 l.length, .int .i64 ns, .slice A1 l.length c1, .slice B1 m1 d1, .int .i64 x0, .int .i64 x1, .int .i64 x2, .int .i64 x3, .bool false, .bool bv1, .bool cv, .bool cw, .bool bi1] 32) |>.mono hb.size))
        have sx4 := SlR.below ((Below.refl w3.heap.size w3).alloc (Nat.le_refl _) (.cells #[.int .i64 l.length, .int .i64 ns, .slice A1 l.length c1, .slice B1 m1 d1, .int .i64 x0, .int .i64 x1, .int .i64 x2, .int .i64 x3, .bool false, .bool bv1, .bool cv, .bool cw, .bool bi1] 32)) sx3
        clear hb st2 s2 hsx sx3 q0 q1 q2 q3
        have q0 := st3.cell 1 rfl 0
        have q1 := st3.cell 1 rfl 1
        have q2 := st3.cell 1 rfl 2
        have q3 := st3.cell 1 rfl 3
        simp only [List.getElem?_toArray, List.getElem?_cons_zero, List.getElem?_cons_succ] at q0 q1 q2 q3
        go_wp2_with (go_at_call 13; refine JR.StopM.out ?_)
        refine ⟨?_⟩
        refine (htu _ _ s3).mono ?_
        rintro e w4 ⟨v4, rfl, sr4, hb⟩
        have st4 := st3.ext hb
        have s4 := s3.below hb
        have sx5 := SlR.below hb sx4
        clear hb st3 s3 sx4 q0 q1 q2 q3
        go_wp2_with (go_at_call 8; refine JR.StopM.out ?_)
        refine ⟨?_⟩
        refine (hsy _ _ sr4.p).mono ?_
        rintro e w5 ⟨A2, c2, B2, m2, d2, bv2, bi2, rfl, sy5, hb⟩
        have hal := (Below.refl w5.heap.size w5).alloc (Nat.le_refl _) (.cells #[.int .i64 l.length, .int .i64 ns, .slice A2 l.length c2, .slice B2 m2 d2, .int .i64 r0, .int .i64 r1, .int .i64 r2, .int .i64 r3, .bool false, .bool bv2, .bool cv, .bool cw2, .bool bi2] 32)
        have st5 := (st4.ext hb).push rfl #[.int .i64 l.length, .int .i64 ns, .slice A2 l.length c2, .slice B2 m2 d2, .int .i64 r0, .int .i64 r1, .int .i64 r2, .int .i64 r3, .bool false, .bool bv2, .bool cv, .bool cw2, .bool bi2] 32
        have s5 := s4.below (hb.trans (hal.mono hb.size))
        have sx6 := SlR.below (hb.trans (hal.mono hb.size)) sx5
        have sy6 := SlR.below hal sy5
        clear hb hal st4 s4 hsy sx5 sy5 sr4
        go_wp2_with (with_reducible refine stop_region ?_)
        refine ⟨?_⟩
        generalize w5.alloc (.cells #[.int .i64 l.length, .int .i64 ns, .slice A2 l.length c2, .slice B2 m2 d2, .int .i64 r0, .int .i64 r1, .int .i64 r2, .int .i64 r3, .bool false, .bool bv2, .bool cv, .bool cw2, .bool bi2] 32) = w6 at *
        generalize w5.heap.size = b11 at *
        generalize w3.heap.size = b10 at *
        have y0 := st5.cell 0 rfl 0
        have z0 := st5.cell 1 rfl 0
        have y1 := st5.cell 0 rfl 1
        have z1 := st5.cell 1 rfl 1
        have y2 := st5.cell 0 rfl 2
        have z2 := st5.cell 1 rfl 2
        have y4 := st5.cell 0 rfl 4
        have z4 := st5.cell 1 rfl 4
        have y5 := st5.cell 0 rfl 5
        have z5 := st5.cell 1 rfl 5
        have y6 := st5.cell 0 rfl 6
        have z6 := st5.cell 1 rfl 6
        have y7 := st5.cell 0 rfl 7
        have z7 := st5.cell 1 rfl 7
        have y8 := st5.cell 0 rfl 8
        have z8 := st5.cell 1 rfl 8
        have y10 := st5.cell 0 rfl 10
        have z10 := st5.cell 1 rfl 10
        have q0 := st5.cell 2 rfl 0
        have q1 := st5.cell 2 rfl 1
        have q2 := st5.cell 2 rfl 2
        have q3 := st5.cell 2 rfl 3
        simp only [List.getElem?_toArray, List.getElem?_cons_zero, List.getElem?_cons_succ] at y0 z0 y1 z1 y2 z2 y4 z4 y5 z5 y6 z6 y7 z7 y8 z8 y10 z10 q0 q1 q2 q3
        have hea := eqArr2
        refine wp_region_K [] [.val (.pointer (some ⟨b10, 0, none⟩)),
            .val (.int .i64 l.length),
            .val (.pointer (some ⟨b11, 0, none⟩)),
            .val (.int .i64 l.length),
            .val (.bool false),
            .val (.bool false),
            .val (.pointer (some ⟨b10, 1, none⟩)),
            .val (.int .i64 ns),
            .val (.pointer (some ⟨b11, 1, none⟩)),
            .val (.int .i64 ns),
            .val (.bool false),
            .val (.bool false),
            .val (.bool false),
            .val (.pointer (some ⟨b10, 8, none⟩)),
            .val (.bool false),
            .val (.pointer (some ⟨b11, 8, none⟩)),
            .val (.bool false),
            .val (.bool false),
            .val (.bool false),
            .val (.bool false),
            .val (.pointer (some ⟨b10, 10, none⟩)),
            .val (.bool cv),
            .val (.pointer (some ⟨b11, 10, none⟩)),
            .val (.bool cv),
            .val (.bool false),
            .val (.bool false),
            .val (.bool false),
            .val (.pointer (some ⟨b11, 4, none⟩)),
            .val (.agg #[.int .i64 r0, .int .i64 r1, .int .i64 r2, .int .i64 r3]),
            .val (.agg #[.int .u8 KK, .int .i64 S, .int .i64 DX, .int .i64 DY]),
            .val (.pointer (some ⟨b10, 4, none⟩)),
            .val (.agg #[.int .i64 x0, .int .i64 x1, .int .i64 x2, .int .i64 x3]),
            .val (.agg #[.int .i64 r0, .int .i64 r1, .int .i64 r2, .int .i64 r3]),
            .val (.bool false),
            .val (.bool false),
            .val (.bool false),
            .val (.pointer (some ⟨b10, 2, none⟩)),
            .val (.slice A1 l.length c1),
            .val (.int .i64 l.length),
            .val (.pointer (some ⟨b11, 2, none⟩)),
            .val (.slice A2 l.length c2),
            .val (.int .i64 l.length),
            .val (.bool false),
            .val (.bool false)]
          [[.ini 10], [.frm 0 47], [.ini 11], [.frm 2 49], [.frm 1 48, .frm 3 50], [.frm 4 51], [.frm 5 52, .ini 10], [.frm 5 52, .frm 6 53], [.frm 5 52, .ini 11], [.frm 5 52, .frm 8 55], [.frm 5 52, .frm 7 54, .frm 9 56], [.frm 5 52, .frm 10 57], [.frm 11 58], [.frm 12 59, .ini 10], [.frm 12 59, .frm 13 60], [.frm 12 59, .ini 11], [.frm 12 59, .frm 15 62], [.frm 12 59, .frm 14 61, .frm 16 63], [.frm 12 59, .frm 17 64], [.frm 18 65], [.frm 19 66, .ini 10], [.frm 19 66, .frm 20 67], [.frm 19 66, .ini 11], [.frm 19 66, .frm 22 69], [.frm 19 66, .frm 21 68, .frm 23 70], [.frm 19 66, .frm 24 71], [.frm 25 72], [.frm 26 73, .ini 11], [.frm 26 73, .frm 27 74], [.frm 26 73, .ini 4], [.frm 26 73, .ini 10], [.frm 26 73, .frm 30 77], [.frm 26 73, .frm 29 76, .frm 31 78], [.frm 26 73, .frm 28 75, .frm 32 79], [.frm 26 73, .frm 33 80], [.frm 34 81], [.frm 35 82, .ini 10], [.frm 35 82, .frm 36 83], [.frm 35 82, .frm 37 84], [.frm 35 82, .ini 11], [.frm 35 82, .frm 39 86], [.frm 35 82, .frm 40 87], [.frm 35 82, .frm 38 85, .frm 41 88], [.frm 35 82, .frm 42 89]]
          mixed (by kernel_rfl) (by kernel_rfl) (allPre_of ⟨trivial, trivial, trivial, trivial, trivial, trivial, trivial, trivial, trivial, trivial, trivial, trivial, trivial, trivial, trivial, trivial, trivial, trivial, trivial, trivial, trivial, trivial, trivial, trivial, trivial, trivial, trivial, trivial, trivial, trivial, trivial, trivial, trivial, trivial, trivial, trivial, trivial, trivial, trivial, trivial, trivial, trivial, trivial, trivial, trivial⟩)
          ⟨OpOk.quiet rfl ?_,
            OpOk.quiet rfl ?_,
            OpOk.quiet rfl ?_,
            OpOk.quiet rfl ?_,
            OpOk.quiet rfl ?_,
            OpOk.quiet rfl ?_,
            OpOk.quietG rfl (by kernel_rfl) (fun a w hf => by obtain ⟨h1, -⟩ := hf; exact h1.elim fun _ h => h.elim fun _ h => h) ?_,
            OpOk.quietG rfl (by kernel_rfl) (fun a w hf => by obtain ⟨h1, -⟩ := hf; exact h1.elim fun _ h => h.elim fun _ h => h) ?_,
            OpOk.quietG rfl (by kernel_rfl) (fun a w hf => by obtain ⟨h1, -⟩ := hf; exact h1.elim fun _ h => h.elim fun _ h => h) ?_,
            OpOk.quietG rfl (by kernel_rfl) (fun a w hf => by obtain ⟨h1, -⟩ := hf; exact h1.elim fun _ h => h.elim fun _ h => h) ?_,
            OpOk.quietG rfl (by kernel_rfl) (fun a w hf => by obtain ⟨h1, -⟩ := hf; exact h1.elim fun _ h => h.elim fun _ h => h) ?_,
            OpOk.quiet rfl ?_,
            OpOk.quiet rfl ?_,
            OpOk.quietG rfl (by kernel_rfl) (fun a w hf => by obtain ⟨h1, -⟩ := hf; exact h1.elim fun _ h => h.elim fun _ h => h) ?_,
            OpOk.quietG rfl (by kernel_rfl) (fun a w hf => by obtain ⟨h1, -⟩ := hf; exact h1.elim fun _ h => h.elim fun _ h => h) ?_,
            OpOk.quietG rfl (by kernel_rfl) (fun a w hf => by obtain ⟨h1, -⟩ := hf; exact h1.elim fun _ h => h.elim fun _ h => h) ?_,
            OpOk.quietG rfl (by kernel_rfl) (fun a w hf => by obtain ⟨h1, -⟩ := hf; exact h1.elim fun _ h => h.elim fun _ h => h) ?_,
            OpOk.quietG rfl (by kernel_rfl) (fun a w hf => by obtain ⟨h1, -⟩ := hf; exact h1.elim fun _ h => h.elim fun _ h => h) ?_,
            OpOk.quiet rfl ?_,
            OpOk.quiet rfl ?_,
            OpOk.quietG rfl (by kernel_rfl) (fun a w hf => by obtain ⟨h1, -⟩ := hf; exact h1.elim fun _ h => h.elim fun _ h => h) ?_,
            OpOk.quietG rfl (by kernel_rfl) (fun a w hf => by obtain ⟨h1, -⟩ := hf; exact h1.elim fun _ h => h.elim fun _ h => h) ?_,
            OpOk.quietG rfl (by kernel_rfl) (fun a w hf => by obtain ⟨h1, -⟩ := hf; exact h1.elim fun _ h => h.elim fun _ h => h) ?_,
            OpOk.quietG rfl (by kernel_rfl) (fun a w hf => by obtain ⟨h1, -⟩ := hf; exact h1.elim fun _ h => h.elim fun _ h => h) ?_,
            OpOk.quietG rfl (by kernel_rfl) (fun a w hf => by obtain ⟨h1, -⟩ := hf; exact h1.elim fun _ h => h.elim fun _ h => h) ?_,
            OpOk.quiet rfl ?_,
            OpOk.quiet rfl ?_,
            OpOk.quietG rfl (by kernel_rfl) (fun a w hf => by obtain ⟨h1, -⟩ := hf; exact h1.elim fun _ h => h.elim fun _ h => h) ?_,
            OpOk.quietG rfl (by kernel_rfl) (fun a w hf => by obtain ⟨h1, -⟩ := hf; exact h1.elim fun _ h => h.elim fun _ h => h) ?_,
            OpOk.quietG rfl (by kernel_rfl) (fun a w hf => by obtain ⟨h1, -⟩ := hf; exact h1.elim fun _ h => h.elim fun _ h => h) ?_,
            OpOk.quietG rfl (by kernel_rfl) (fun a w hf => by obtain ⟨h1, -⟩ := hf; exact h1.elim fun _ h => h.elim fun _ h => h) ?_,
            OpOk.quietG rfl (by kernel_rfl) (fun a w hf => by obtain ⟨h1, -⟩ := hf; exact h1.elim fun _ h => h.elim fun _ h => h) ?_,
            OpOk.callG rfl (by kernel_rfl) (fun a w hf => by obtain ⟨h1, -⟩ := hf; exact h1.elim fun _ h => h.elim fun _ h => h) ?_,
            OpOk.quietG rfl (by kernel_rfl) (fun a w hf => by obtain ⟨h1, -⟩ := hf; exact h1.elim fun _ h => h.elim fun _ h => h) ?_,
            OpOk.quiet rfl ?_,
            OpOk.quiet rfl ?_,
            OpOk.quietG rfl (by kernel_rfl) (fun a w hf => by obtain ⟨h1, -⟩ := hf; exact h1.elim fun _ h => h.elim fun _ h => h) ?_,
            OpOk.quietG rfl (by kernel_rfl) (fun a w hf => by obtain ⟨h1, -⟩ := hf; exact h1.elim fun _ h => h.elim fun _ h => h) ?_,
            OpOk.quietG rfl (by kernel_rfl) (fun a w hf => by obtain ⟨h1, -⟩ := hf; exact h1.elim fun _ h => h.elim fun _ h => h) ?_,
            OpOk.quietG rfl (by kernel_rfl) (fun a w hf => by obtain ⟨h1, -⟩ := hf; exact h1.elim fun _ h => h.elim fun _ h => h) ?_,
            OpOk.quietG rfl (by kernel_rfl) (fun a w hf => by obtain ⟨h1, -⟩ := hf; exact h1.elim fun _ h => h.elim fun _ h => h) ?_,
            OpOk.quietG rfl (by kernel_rfl) (fun a w hf => by obtain ⟨h1, -⟩ := hf; exact h1.elim fun _ h => h.elim fun _ h => h) ?_,
            OpOk.quietG rfl (by kernel_rfl) (fun a w hf => by obtain ⟨h1, -⟩ := hf; exact h1.elim fun _ h => h.elim fun _ h => h) ?_,
            OpOk.quiet rfl ?_, trivial⟩ ?_
        · intro a u _ hf
          simp [facts, Need.fact, Ent.val, Act.eval] at hf
          go_simp
        · intro a u hG hf
          simp [facts, Need.fact, Ent.val, Act.eval] at hf
          have y0' := (hG.cell (p := ⟨b11, 0, none⟩) (st5.lt 0 rfl) (by simp)).trans y0
          have y1' := (hG.cell (p := ⟨b11, 1, none⟩) (st5.lt 0 rfl) (by simp)).trans y1
          have y2' := (hG.cell (p := ⟨b11, 2, none⟩) (st5.lt 0 rfl) (by simp)).trans y2
          have y4' := (hG.cell (p := ⟨b11, 4, none⟩) (st5.lt 0 rfl) (by simp)).trans y4
          have y5' := (hG.cell (p := ⟨b11, 5, none⟩) (st5.lt 0 rfl) (by simp)).trans y5
          have y6' := (hG.cell (p := ⟨b11, 6, none⟩) (st5.lt 0 rfl) (by simp)).trans y6
          have y7' := (hG.cell (p := ⟨b11, 7, none⟩) (st5.lt 0 rfl) (by simp)).trans y7
          have y8' := (hG.cell (p := ⟨b11, 8, none⟩) (st5.lt 0 rfl) (by simp)).trans y8
          have y10' := (hG.cell (p := ⟨b11, 10, none⟩) (st5.lt 0 rfl) (by simp)).trans y10
          have z0' := (hG.cell (p := ⟨b10, 0, none⟩) (st5.lt 1 rfl) (by simp)).trans z0
          have z1' := (hG.cell (p := ⟨b10, 1, none⟩) (st5.lt 1 rfl) (by simp)).trans z1
          have z2' := (hG.cell (p := ⟨b10, 2, none⟩) (st5.lt 1 rfl) (by simp)).trans z2
          have z4' := (hG.cell (p := ⟨b10, 4, none⟩) (st5.lt 1 rfl) (by simp)).trans z4
          have z5' := (hG.cell (p := ⟨b10, 5, none⟩) (st5.lt 1 rfl) (by simp)).trans z5
          have z6' := (hG.cell (p := ⟨b10, 6, none⟩) (st5.lt 1 rfl) (by simp)).trans z6
          have z7' := (hG.cell (p := ⟨b10, 7, none⟩) (st5.lt 1 rfl) (by simp)).trans z7
          have z8' := (hG.cell (p := ⟨b10, 8, none⟩) (st5.lt 1 rfl) (by simp)).trans z8
          have z10' := (hG.cell (p := ⟨b10, 10, none⟩) (st5.lt 1 rfl) (by simp)).trans z10
          have q0' := (hG.cell (p := ⟨w.heap.size, 0, none⟩) (st5.lt 2 rfl) (by simp)).trans q0
          have q1' := (hG.cell (p := ⟨w.heap.size, 1, none⟩) (st5.lt 2 rfl) (by simp)).trans q1
          have q2' := (hG.cell (p := ⟨w.heap.size, 2, none⟩) (st5.lt 2 rfl) (by simp)).trans q2
          have q3' := (hG.cell (p := ⟨w.heap.size, 3, none⟩) (st5.lt 2 rfl) (by simp)).trans q3
          go_simp
        · intro a u _ hf
          simp [facts, Need.fact, Ent.val, Act.eval] at hf
          go_simp
        · intro a u hG hf
          simp [facts, Need.fact, Ent.val, Act.eval] at hf
          have y0' := (hG.cell (p := ⟨b11, 0, none⟩) (st5.lt 0 rfl) (by simp)).trans y0
          have y1' := (hG.cell (p := ⟨b11, 1, none⟩) (st5.lt 0 rfl) (by simp)).trans y1
          have y2' := (hG.cell (p := ⟨b11, 2, none⟩) (st5.lt 0 rfl) (by simp)).trans y2
          have y4' := (hG.cell (p := ⟨b11, 4, none⟩) (st5.lt 0 rfl) (by simp)).trans y4
          have y5' := (hG.cell (p := ⟨b11, 5, none⟩) (st5.lt 0 rfl) (by simp)).trans y5
          have y6' := (hG.cell (p := ⟨b11, 6, none⟩) (st5.lt 0 rfl) (by simp)).trans y6
          have y7' := (hG.cell (p := ⟨b11, 7, none⟩) (st5.lt 0 rfl) (by simp)).trans y7
          have y8' := (hG.cell (p := ⟨b11, 8, none⟩) (st5.lt 0 rfl) (by simp)).trans y8
          have y10' := (hG.cell (p := ⟨b11, 10, none⟩) (st5.lt 0 rfl) (by simp)).trans y10
          have z0' := (hG.cell (p := ⟨b10, 0, none⟩) (st5.lt 1 rfl) (by simp)).trans z0
          have z1' := (hG.cell (p := ⟨b10, 1, none⟩) (st5.lt 1 rfl) (by simp)).trans z1
          have z2' := (hG.cell (p := ⟨b10, 2, none⟩) (st5.lt 1 rfl) (by simp)).trans z2
          have z4' := (hG.cell (p := ⟨b10, 4, none⟩) (st5.lt 1 rfl) (by simp)).trans z4
          have z5' := (hG.cell (p := ⟨b10, 5, none⟩) (st5.lt 1 rfl) (by simp)).trans z5
          have z6' := (hG.cell (p := ⟨b10, 6, none⟩) (st5.lt 1 rfl) (by simp)).trans z6
          have z7' := (hG.cell (p := ⟨b10, 7, none⟩) (st5.lt 1 rfl) (by simp)).trans z7
          have z8' := (hG.cell (p := ⟨b10, 8, none⟩) (st5.lt 1 rfl) (by simp)).trans z8
          have z10' := (hG.cell (p := ⟨b10, 10, none⟩) (st5.lt 1 rfl) (by simp)).trans z10
          have q0' := (hG.cell (p := ⟨w.heap.size, 0, none⟩) (st5.lt 2 rfl) (by simp)).trans q0
          have q1' := (hG.cell (p := ⟨w.heap.size, 1, none⟩) (st5.lt 2 rfl) (by simp)).trans q1
          have q2' := (hG.cell (p := ⟨w.heap.size, 2, none⟩) (st5.lt 2 rfl) (by simp)).trans q2
          have q3' := (hG.cell (p := ⟨w.heap.size, 3, none⟩) (st5.lt 2 rfl) (by simp)).trans q3
          go_simp
        · intro a u _ hf
          simp [facts, Need.fact, Ent.val, Act.eval] at hf
          go_simp
        · intro a u _ hf
          simp [facts, Need.fact, Ent.val, Act.eval] at hf
          go_simp
        · intro a u _ hf
          simp [facts, Need.fact, Ent.val, Act.eval] at hf
          go_simp
        · intro a u hG hf
          simp [facts, Need.fact, Ent.val, Act.eval] at hf
          have y0' := (hG.cell (p := ⟨b11, 0, none⟩) (st5.lt 0 rfl) (by simp)).trans y0
          have y1' := (hG.cell (p := ⟨b11, 1, none⟩) (st5.lt 0 rfl) (by simp)).trans y1
          have y2' := (hG.cell (p := ⟨b11, 2, none⟩) (st5.lt 0 rfl) (by simp)).trans y2
          have y4' := (hG.cell (p := ⟨b11, 4, none⟩) (st5.lt 0 rfl) (by simp)).trans y4
          have y5' := (hG.cell (p := ⟨b11, 5, none⟩) (st5.lt 0 rfl) (by simp)).trans y5
          have y6' := (hG.cell (p := ⟨b11, 6, none⟩) (st5.lt 0 rfl) (by simp)).trans y6
          have y7' := (hG.cell (p := ⟨b11, 7, none⟩) (st5.lt 0 rfl) (by simp)).trans y7
          have y8' := (hG.cell (p := ⟨b11, 8, none⟩) (st5.lt 0 rfl) (by simp)).trans y8
          have y10' := (hG.cell (p := ⟨b11, 10, none⟩) (st5.lt 0 rfl) (by simp)).trans y10
          have z0' := (hG.cell (p := ⟨b10, 0, none⟩) (st5.lt 1 rfl) (by simp)).trans z0
          have z1' := (hG.cell (p := ⟨b10, 1, none⟩) (st5.lt 1 rfl) (by simp)).trans z1
          have z2' := (hG.cell (p := ⟨b10, 2, none⟩) (st5.lt 1 rfl) (by simp)).trans z2
          have z4' := (hG.cell (p := ⟨b10, 4, none⟩) (st5.lt 1 rfl) (by simp)).trans z4
          have z5' := (hG.cell (p := ⟨b10, 5, none⟩) (st5.lt 1 rfl) (by simp)).trans z5
          have z6' := (hG.cell (p := ⟨b10, 6, none⟩) (st5.lt 1 rfl) (by simp)).trans z6
          have z7' := (hG.cell (p := ⟨b10, 7, none⟩) (st5.lt 1 rfl) (by simp)).trans z7
          have z8' := (hG.cell (p := ⟨b10, 8, none⟩) (st5.lt 1 rfl) (by simp)).trans z8
          have z10' := (hG.cell (p := ⟨b10, 10, none⟩) (st5.lt 1 rfl) (by simp)).trans z10
          have q0' := (hG.cell (p := ⟨w.heap.size, 0, none⟩) (st5.lt 2 rfl) (by simp)).trans q0
          have q1' := (hG.cell (p := ⟨w.heap.size, 1, none⟩) (st5.lt 2 rfl) (by simp)).trans q1
          have q2' := (hG.cell (p := ⟨w.heap.size, 2, none⟩) (st5.lt 2 rfl) (by simp)).trans q2
          have q3' := (hG.cell (p := ⟨w.heap.size, 3, none⟩) (st5.lt 2 rfl) (by simp)).trans q3
          go_simp
        · intro a u _ hf
          simp [facts, Need.fact, Ent.val, Act.eval] at hf
          go_simp
        · intro a u hG hf
          simp [facts, Need.fact, Ent.val, Act.eval] at hf
          have y0' := (hG.cell (p := ⟨b11, 0, none⟩) (st5.lt 0 rfl) (by simp)).trans y0
          have y1' := (hG.cell (p := ⟨b11, 1, none⟩) (st5.lt 0 rfl) (by simp)).trans y1
          have y2' := (hG.cell (p := ⟨b11, 2, none⟩) (st5.lt 0 rfl) (by simp)).trans y2
          have y4' := (hG.cell (p := ⟨b11, 4, none⟩) (st5.lt 0 rfl) (by simp)).trans y4
          have y5' := (hG.cell (p := ⟨b11, 5, none⟩) (st5.lt 0 rfl) (by simp)).trans y5
          have y6' := (hG.cell (p := ⟨b11, 6, none⟩) (st5.lt 0 rfl) (by simp)).trans y6
          have y7' := (hG.cell (p := ⟨b11, 7, none⟩) (st5.lt 0 rfl) (by simp)).trans y7
          have y8' := (hG.cell (p := ⟨b11, 8, none⟩) (st5.lt 0 rfl) (by simp)).trans y8
          have y10' := (hG.cell (p := ⟨b11, 10, none⟩) (st5.lt 0 rfl) (by simp)).trans y10
          have z0' := (hG.cell (p := ⟨b10, 0, none⟩) (st5.lt 1 rfl) (by simp)).trans z0
          have z1' := (hG.cell (p := ⟨b10, 1, none⟩) (st5.lt 1 rfl) (by simp)).trans z1
          have z2' := (hG.cell (p := ⟨b10, 2, none⟩) (st5.lt 1 rfl) (by simp)).trans z2
          have z4' := (hG.cell (p := ⟨b10, 4, none⟩) (st5.lt 1 rfl) (by simp)).trans z4
          have z5' := (hG.cell (p := ⟨b10, 5, none⟩) (st5.lt 1 rfl) (by simp)).trans z5
          have z6' := (hG.cell (p := ⟨b10, 6, none⟩) (st5.lt 1 rfl) (by simp)).trans z6
          have z7' := (hG.cell (p := ⟨b10, 7, none⟩) (st5.lt 1 rfl) (by simp)).trans z7
          have z8' := (hG.cell (p := ⟨b10, 8, none⟩) (st5.lt 1 rfl) (by simp)).trans z8
          have z10' := (hG.cell (p := ⟨b10, 10, none⟩) (st5.lt 1 rfl) (by simp)).trans z10
          have q0' := (hG.cell (p := ⟨w.heap.size, 0, none⟩) (st5.lt 2 rfl) (by simp)).trans q0
          have q1' := (hG.cell (p := ⟨w.heap.size, 1, none⟩) (st5.lt 2 rfl) (by simp)).trans q1
          have q2' := (hG.cell (p := ⟨w.heap.size, 2, none⟩) (st5.lt 2 rfl) (by simp)).trans q2
          have q3' := (hG.cell (p := ⟨w.heap.size, 3, none⟩) (st5.lt 2 rfl) (by simp)).trans q3
          go_simp
        · intro a u _ hf
          simp [facts, Need.fact, Ent.val, Act.eval] at hf
          go_simp
        · intro a u _ hf
          simp [facts, Need.fact, Ent.val, Act.eval] at hf
          go_simp
        · intro a u _ hf
          simp [facts, Need.fact, Ent.val, Act.eval] at hf
          go_simp
        · intro a u _ hf
          simp [facts, Need.fact, Ent.val, Act.eval] at hf
          go_simp
        · intro a u hG hf
          simp [facts, Need.fact, Ent.val, Act.eval] at hf
          have y0' := (hG.cell (p := ⟨b11, 0, none⟩) (st5.lt 0 rfl) (by simp)).trans y0
          have y1' := (hG.cell (p := ⟨b11, 1, none⟩) (st5.lt 0 rfl) (by simp)).trans y1
          have y2' := (hG.cell (p := ⟨b11, 2, none⟩) (st5.lt 0 rfl) (by simp)).trans y2
          have y4' := (hG.cell (p := ⟨b11, 4, none⟩) (st5.lt 0 rfl) (by simp)).trans y4
          have y5' := (hG.cell (p := ⟨b11, 5, none⟩) (st5.lt 0 rfl) (by simp)).trans y5
          have y6' := (hG.cell (p := ⟨b11, 6, none⟩) (st5.lt 0 rfl) (by simp)).trans y6
          have y7' := (hG.cell (p := ⟨b11, 7, none⟩) (st5.lt 0 rfl) (by simp)).trans y7
          have y8' := (hG.cell (p := ⟨b11, 8, none⟩) (st5.lt 0 rfl) (by simp)).trans y8
          have y10' := (hG.cell (p := ⟨b11, 10, none⟩) (st5.lt 0 rfl) (by simp)).trans y10
          have z0' := (hG.cell (p := ⟨b10, 0, none⟩) (st5.lt 1 rfl) (by simp)).trans z0
          have z1' := (hG.cell (p := ⟨b10, 1, none⟩) (st5.lt 1 rfl) (by simp)).trans z1
          have z2' := (hG.cell (p := ⟨b10, 2, none⟩) (st5.lt 1 rfl) (by simp)).trans z2
          have z4' := (hG.cell (p := ⟨b10, 4, none⟩) (st5.lt 1 rfl) (by simp)).trans z4
          have z5' := (hG.cell (p := ⟨b10, 5, none⟩) (st5.lt 1 rfl) (by simp)).trans z5
          have z6' := (hG.cell (p := ⟨b10, 6, none⟩) (st5.lt 1 rfl) (by simp)).trans z6
          have z7' := (hG.cell (p := ⟨b10, 7, none⟩) (st5.lt 1 rfl) (by simp)).trans z7
          have z8' := (hG.cell (p := ⟨b10, 8, none⟩) (st5.lt 1 rfl) (by simp)).trans z8
          have z10' := (hG.cell (p := ⟨b10, 10, none⟩) (st5.lt 1 rfl) (by simp)).trans z10
          have q0' := (hG.cell (p := ⟨w.heap.size, 0, none⟩) (st5.lt 2 rfl) (by simp)).trans q0
          have q1' := (hG.cell (p := ⟨w.heap.size, 1, none⟩) (st5.lt 2 rfl) (by simp)).trans q1
          have q2' := (hG.cell (p := ⟨w.heap.size, 2, none⟩) (st5.lt 2 rfl) (by simp)).trans q2
          have q3' := (hG.cell (p := ⟨w.heap.size, 3, none⟩) (st5.lt 2 rfl) (by simp)).trans q3
          go_simp
        · intro a u _ hf
          simp [facts, Need.fact, Ent.val, Act.eval] at hf
          go_simp
        · intro a u hG hf
          simp [facts, Need.fact, Ent.val, Act.eval] at hf
          have y0' := (hG.cell (p := ⟨b11, 0, none⟩) (st5.lt 0 rfl) (by simp)).trans y0
          have y1' := (hG.cell (p := ⟨b11, 1, none⟩) (st5.lt 0 rfl) (by simp)).trans y1
          have y2' := (hG.cell (p := ⟨b11, 2, none⟩) (st5.lt 0 rfl) (by simp)).trans y2
          have y4' := (hG.cell (p := ⟨b11, 4, none⟩) (st5.lt 0 rfl) (by simp)).trans y4
          have y5' := (hG.cell (p := ⟨b11, 5, none⟩) (st5.lt 0 rfl) (by simp)).trans y5
          have y6' := (hG.cell (p := ⟨b11, 6, none⟩) (st5.lt 0 rfl) (by simp)).trans y6
          have y7' := (hG.cell (p := ⟨b11, 7, none⟩) (st5.lt 0 rfl) (by simp)).trans y7
          have y8' := (hG.cell (p := ⟨b11, 8, none⟩) (st5.lt 0 rfl) (by simp)).trans y8
          have y10' := (hG.cell (p := ⟨b11, 10, none⟩) (st5.lt 0 rfl) (by simp)).trans y10
          have z0' := (hG.cell (p := ⟨b10, 0, none⟩) (st5.lt 1 rfl) (by simp)).trans z0
          have z1' := (hG.cell (p := ⟨b10, 1, none⟩) (st5.lt 1 rfl) (by simp)).trans z1
          have z2' := (hG.cell (p := ⟨b10, 2, none⟩) (st5.lt 1 rfl) (by simp)).trans z2
          have z4' := (hG.cell (p := ⟨b10, 4, none⟩) (st5.lt 1 rfl) (by simp)).trans z4
          have z5' := (hG.cell (p := ⟨b10, 5, none⟩) (st5.lt 1 rfl) (by simp)).trans z5
          have z6' := (hG.cell (p := ⟨b10, 6, none⟩) (st5.lt 1 rfl) (by simp)).trans z6
          have z7' := (hG.cell (p := ⟨b10, 7, none⟩) (st5.lt 1 rfl) (by simp)).trans z7
          have z8' := (hG.cell (p := ⟨b10, 8, none⟩) (st5.lt 1 rfl) (by simp)).trans z8
          have z10' := (hG.cell (p := ⟨b10, 10, none⟩) (st5.lt 1 rfl) (by simp)).trans z10
          have q0' := (hG.cell (p := ⟨w.heap.size, 0, none⟩) (st5.lt 2 rfl) (by simp)).trans q0
          have q1' := (hG.cell (p := ⟨w.heap.size, 1, none⟩) (st5.lt 2 rfl) (by simp)).trans q1
          have q2' := (hG.cell (p := ⟨w.heap.size, 2, none⟩) (st5.lt 2 rfl) (by simp)).trans q2
          have q3' := (hG.cell (p := ⟨w.heap.size, 3, none⟩) (st5.lt 2 rfl) (by simp)).trans q3
          go_simp
        · intro a u _ hf
          simp [facts, Need.fact, Ent.val, Act.eval] at hf
          go_simp
        · intro a u _ hf
          simp [facts, Need.fact, Ent.val, Act.eval] at hf
          go_simp
        · intro a u _ hf
          simp [facts, Need.fact, Ent.val, Act.eval] at hf
          go_simp
        · intro a u _ hf
          simp [facts, Need.fact, Ent.val, Act.eval] at hf
          go_simp
        · intro a u hG hf
          simp [facts, Need.fact, Ent.val, Act.eval] at hf
          have y0' := (hG.cell (p := ⟨b11, 0, none⟩) (st5.lt 0 rfl) (by simp)).trans y0
          have y1' := (hG.cell (p := ⟨b11, 1, none⟩) (st5.lt 0 rfl) (by simp)).trans y1
          have y2' := (hG.cell (p := ⟨b11, 2, none⟩) (st5.lt 0 rfl) (by simp)).trans y2
          have y4' := (hG.cell (p := ⟨b11, 4, none⟩) (st5.lt 0 rfl) (by simp)).trans y4
          have y5' := (hG.cell (p := ⟨b11, 5, none⟩) (st5.lt 0 rfl) (by simp)).trans y5
          have y6' := (hG.cell (p := ⟨b11, 6, none⟩) (st5.lt 0 rfl) (by simp)).trans y6
          have y7' := (hG.cell (p := ⟨b11, 7, none⟩) (st5.lt 0 rfl) (by simp)).trans y7
          have y8' := (hG.cell (p := ⟨b11, 8, none⟩) (st5.lt 0 rfl) (by simp)).trans y8
          have y10' := (hG.cell (p := ⟨b11, 10, none⟩) (st5.lt 0 rfl) (by simp)).trans y10
          have z0' := (hG.cell (p := ⟨b10, 0, none⟩) (st5.lt 1 rfl) (by simp)).trans z0
          have z1' := (hG.cell (p := ⟨b10, 1, none⟩) (st5.lt 1 rfl) (by simp)).trans z1
          have z2' := (hG.cell (p := ⟨b10, 2, none⟩) (st5.lt 1 rfl) (by simp)).trans z2
          have z4' := (hG.cell (p := ⟨b10, 4, none⟩) (st5.lt 1 rfl) (by simp)).trans z4
          have z5' := (hG.cell (p := ⟨b10, 5, none⟩) (st5.lt 1 rfl) (by simp)).trans z5
          have z6' := (hG.cell (p := ⟨b10, 6, none⟩) (st5.lt 1 rfl) (by simp)).trans z6
          have z7' := (hG.cell (p := ⟨b10, 7, none⟩) (st5.lt 1 rfl) (by simp)).trans z7
          have z8' := (hG.cell (p := ⟨b10, 8, none⟩) (st5.lt 1 rfl) (by simp)).trans z8
          have z10' := (hG.cell (p := ⟨b10, 10, none⟩) (st5.lt 1 rfl) (by simp)).trans z10
          have q0' := (hG.cell (p := ⟨w.heap.size, 0, none⟩) (st5.lt 2 rfl) (by simp)).trans q0
          have q1' := (hG.cell (p := ⟨w.heap.size, 1, none⟩) (st5.lt 2 rfl) (by simp)).trans q1
          have q2' := (hG.cell (p := ⟨w.heap.size, 2, none⟩) (st5.lt 2 rfl) (by simp)).trans q2
          have q3' := (hG.cell (p := ⟨w.heap.size, 3, none⟩) (st5.lt 2 rfl) (by simp)).trans q3
          go_simp
        · intro a u _ hf
          simp [facts, Need.fact, Ent.val, Act.eval] at hf
          go_simp
        · intro a u hG hf
          simp [facts, Need.fact, Ent.val, Act.eval] at hf
          have y0' := (hG.cell (p := ⟨b11, 0, none⟩) (st5.lt 0 rfl) (by simp)).trans y0
          have y1' := (hG.cell (p := ⟨b11, 1, none⟩) (st5.lt 0 rfl) (by simp)).trans y1
          have y2' := (hG.cell (p := ⟨b11, 2, none⟩) (st5.lt 0 rfl) (by simp)).trans y2
          have y4' := (hG.cell (p := ⟨b11, 4, none⟩) (st5.lt 0 rfl) (by simp)).trans y4
          have y5' := (hG.cell (p := ⟨b11, 5, none⟩) (st5.lt 0 rfl) (by simp)).trans y5
          have y6' := (hG.cell (p := ⟨b11, 6, none⟩) (st5.lt 0 rfl) (by simp)).trans y6
          have y7' := (hG.cell (p := ⟨b11, 7, none⟩) (st5.lt 0 rfl) (by simp)).trans y7
          have y8' := (hG.cell (p := ⟨b11, 8, none⟩) (st5.lt 0 rfl) (by simp)).trans y8
          have y10' := (hG.cell (p := ⟨b11, 10, none⟩) (st5.lt 0 rfl) (by simp)).trans y10
          have z0' := (hG.cell (p := ⟨b10, 0, none⟩) (st5.lt 1 rfl) (by simp)).trans z0
          have z1' := (hG.cell (p := ⟨b10, 1, none⟩) (st5.lt 1 rfl) (by simp)).trans z1
          have z2' := (hG.cell (p := ⟨b10, 2, none⟩) (st5.lt 1 rfl) (by simp)).trans z2
          have z4' := (hG.cell (p := ⟨b10, 4, none⟩) (st5.lt 1 rfl) (by simp)).trans z4
          have z5' := (hG.cell (p := ⟨b10, 5, none⟩) (st5.lt 1 rfl) (by simp)).trans z5
          have z6' := (hG.cell (p := ⟨b10, 6, none⟩) (st5.lt 1 rfl) (by simp)).trans z6
          have z7' := (hG.cell (p := ⟨b10, 7, none⟩) (st5.lt 1 rfl) (by simp)).trans z7
          have z8' := (hG.cell (p := ⟨b10, 8, none⟩) (st5.lt 1 rfl) (by simp)).trans z8
          have z10' := (hG.cell (p := ⟨b10, 10, none⟩) (st5.lt 1 rfl) (by simp)).trans z10
          have q0' := (hG.cell (p := ⟨w.heap.size, 0, none⟩) (st5.lt 2 rfl) (by simp)).trans q0
          have q1' := (hG.cell (p := ⟨w.heap.size, 1, none⟩) (st5.lt 2 rfl) (by simp)).trans q1
          have q2' := (hG.cell (p := ⟨w.heap.size, 2, none⟩) (st5.lt 2 rfl) (by simp)).trans q2
          have q3' := (hG.cell (p := ⟨w.heap.size, 3, none⟩) (st5.lt 2 rfl) (by simp)).trans q3
          go_simp
        · intro a u _ hf
          simp [facts, Need.fact, Ent.val, Act.eval] at hf
          go_simp
        · intro a u _ hf
          simp [facts, Need.fact, Ent.val, Act.eval] at hf
          go_simp
        · intro a u _ hf
          simp [facts, Need.fact, Ent.val, Act.eval] at hf
          go_simp
        · intro a u _ hf
          simp [facts, Need.fact, Ent.val, Act.eval] at hf
          go_simp
        · intro a u hG hf
          simp [facts, Need.fact, Ent.val, Act.eval] at hf
          have y0' := (hG.cell (p := ⟨b11, 0, none⟩) (st5.lt 0 rfl) (by simp)).trans y0
          have y1' := (hG.cell (p := ⟨b11, 1, none⟩) (st5.lt 0 rfl) (by simp)).trans y1
          have y2' := (hG.cell (p := ⟨b11, 2, none⟩) (st5.lt 0 rfl) (by simp)).trans y2
          have y4' := (hG.cell (p := ⟨b11, 4, none⟩) (st5.lt 0 rfl) (by simp)).trans y4
          have y5' := (hG.cell (p := ⟨b11, 5, none⟩) (st5.lt 0 rfl) (by simp)).trans y5
          have y6' := (hG.cell (p := ⟨b11, 6, none⟩) (st5.lt 0 rfl) (by simp)).trans y6
          have y7' := (hG.cell (p := ⟨b11, 7, none⟩) (st5.lt 0 rfl) (by simp)).trans y7
          have y8' := (hG.cell (p := ⟨b11, 8, none⟩) (st5.lt 0 rfl) (by simp)).trans y8
          have y10' := (hG.cell (p := ⟨b11, 10, none⟩) (st5.lt 0 rfl) (by simp)).trans y10
          have z0' := (hG.cell (p := ⟨b10, 0, none⟩) (st5.lt 1 rfl) (by simp)).trans z0
          have z1' := (hG.cell (p := ⟨b10, 1, none⟩) (st5.lt 1 rfl) (by simp)).trans z1
          have z2' := (hG.cell (p := ⟨b10, 2, none⟩) (st5.lt 1 rfl) (by simp)).trans z2
          have z4' := (hG.cell (p := ⟨b10, 4, none⟩) (st5.lt 1 rfl) (by simp)).trans z4
          have z5' := (hG.cell (p := ⟨b10, 5, none⟩) (st5.lt 1 rfl) (by simp)).trans z5
          have z6' := (hG.cell (p := ⟨b10, 6, none⟩) (st5.lt 1 rfl) (by simp)).trans z6
          have z7' := (hG.cell (p := ⟨b10, 7, none⟩) (st5.lt 1 rfl) (by simp)).trans z7
          have z8' := (hG.cell (p := ⟨b10, 8, none⟩) (st5.lt 1 rfl) (by simp)).trans z8
          have z10' := (hG.cell (p := ⟨b10, 10, none⟩) (st5.lt 1 rfl) (by simp)).trans z10
          have q0' := (hG.cell (p := ⟨w.heap.size, 0, none⟩) (st5.lt 2 rfl) (by simp)).trans q0
          have q1' := (hG.cell (p := ⟨w.heap.size, 1, none⟩) (st5.lt 2 rfl) (by simp)).trans q1
          have q2' := (hG.cell (p := ⟨w.heap.size, 2, none⟩) (st5.lt 2 rfl) (by simp)).trans q2
          have q3' := (hG.cell (p := ⟨w.heap.size, 3, none⟩) (st5.lt 2 rfl) (by simp)).trans q3
          go_simp
        · intro a u hG hf
          simp [facts, Need.fact, Ent.val, Act.eval] at hf
          have y0' := (hG.cell (p := ⟨b11, 0, none⟩) (st5.lt 0 rfl) (by simp)).trans y0
          have y1' := (hG.cell (p := ⟨b11, 1, none⟩) (st5.lt 0 rfl) (by simp)).trans y1
          have y2' := (hG.cell (p := ⟨b11, 2, none⟩) (st5.lt 0 rfl) (by simp)).trans y2
          have y4' := (hG.cell (p := ⟨b11, 4, none⟩) (st5.lt 0 rfl) (by simp)).trans y4
          have y5' := (hG.cell (p := ⟨b11, 5, none⟩) (st5.lt 0 rfl) (by simp)).trans y5
          have y6' := (hG.cell (p := ⟨b11, 6, none⟩) (st5.lt 0 rfl) (by simp)).trans y6
          have y7' := (hG.cell (p := ⟨b11, 7, none⟩) (st5.lt 0 rfl) (by simp)).trans y7
          have y8' := (hG.cell (p := ⟨b11, 8, none⟩) (st5.lt 0 rfl) (by simp)).trans y8
          have y10' := (hG.cell (p := ⟨b11, 10, none⟩) (st5.lt 0 rfl) (by simp)).trans y10
          have z0' := (hG.cell (p := ⟨b10, 0, none⟩) (st5.lt 1 rfl) (by simp)).trans z0
          have z1' := (hG.cell (p := ⟨b10, 1, none⟩) (st5.lt 1 rfl) (by simp)).trans z1
          have z2' := (hG.cell (p := ⟨b10, 2, none⟩) (st5.lt 1 rfl) (by simp)).trans z2
          have z4' := (hG.cell (p := ⟨b10, 4, none⟩) (st5.lt 1 rfl) (by simp)).trans z4
          have z5' := (hG.cell (p := ⟨b10, 5, none⟩) (st5.lt 1 rfl) (by simp)).trans z5
          have z6' := (hG.cell (p := ⟨b10, 6, none⟩) (st5.lt 1 rfl) (by simp)).trans z6
          have z7' := (hG.cell (p := ⟨b10, 7, none⟩) (st5.lt 1 rfl) (by simp)).trans z7
          have z8' := (hG.cell (p := ⟨b10, 8, none⟩) (st5.lt 1 rfl) (by simp)).trans z8
          have z10' := (hG.cell (p := ⟨b10, 10, none⟩) (st5.lt 1 rfl) (by simp)).trans z10
          have q0' := (hG.cell (p := ⟨w.heap.size, 0, none⟩) (st5.lt 2 rfl) (by simp)).trans q0
          have q1' := (hG.cell (p := ⟨w.heap.size, 1, none⟩) (st5.lt 2 rfl) (by simp)).trans q1
          have q2' := (hG.cell (p := ⟨w.heap.size, 2, none⟩) (st5.lt 2 rfl) (by simp)).trans q2
          have q3' := (hG.cell (p := ⟨w.heap.size, 3, none⟩) (st5.lt 2 rfl) (by simp)).trans q3
          go_simp
        · intro a u _ hf
          simp [facts, Need.fact, Ent.val, Act.eval] at hf
          go_simp
        · intro a u hG hf
          simp [facts, Need.fact, Ent.val, Act.eval] at hf
          have y0' := (hG.cell (p := ⟨b11, 0, none⟩) (st5.lt 0 rfl) (by simp)).trans y0
          have y1' := (hG.cell (p := ⟨b11, 1, none⟩) (st5.lt 0 rfl) (by simp)).trans y1
          have y2' := (hG.cell (p := ⟨b11, 2, none⟩) (st5.lt 0 rfl) (by simp)).trans y2
          have y4' := (hG.cell (p := ⟨b11, 4, none⟩) (st5.lt 0 rfl) (by simp)).trans y4
          have y5' := (hG.cell (p := ⟨b11, 5, none⟩) (st5.lt 0 rfl) (by simp)).trans y5
          have y6' := (hG.cell (p := ⟨b11, 6, none⟩) (st5.lt 0 rfl) (by simp)).trans y6
          have y7' := (hG.cell (p := ⟨b11, 7, none⟩) (st5.lt 0 rfl) (by simp)).trans y7
          have y8' := (hG.cell (p := ⟨b11, 8, none⟩) (st5.lt 0 rfl) (by simp)).trans y8
          have y10' := (hG.cell (p := ⟨b11, 10, none⟩) (st5.lt 0 rfl) (by simp)).trans y10
          have z0' := (hG.cell (p := ⟨b10, 0, none⟩) (st5.lt 1 rfl) (by simp)).trans z0
          have z1' := (hG.cell (p := ⟨b10, 1, none⟩) (st5.lt 1 rfl) (by simp)).trans z1
          have z2' := (hG.cell (p := ⟨b10, 2, none⟩) (st5.lt 1 rfl) (by simp)).trans z2
          have z4' := (hG.cell (p := ⟨b10, 4, none⟩) (st5.lt 1 rfl) (by simp)).trans z4
          have z5' := (hG.cell (p := ⟨b10, 5, none⟩) (st5.lt 1 rfl) (by simp)).trans z5
          have z6' := (hG.cell (p := ⟨b10, 6, none⟩) (st5.lt 1 rfl) (by simp)).trans z6
          have z7' := (hG.cell (p := ⟨b10, 7, none⟩) (st5.lt 1 rfl) (by simp)).trans z7
          have z8' := (hG.cell (p := ⟨b10, 8, none⟩) (st5.lt 1 rfl) (by simp)).trans z8
          have z10' := (hG.cell (p := ⟨b10, 10, none⟩) (st5.lt 1 rfl) (by simp)).trans z10
          have q0' := (hG.cell (p := ⟨w.heap.size, 0, none⟩) (st5.lt 2 rfl) (by simp)).trans q0
          have q1' := (hG.cell (p := ⟨w.heap.size, 1, none⟩) (st5.lt 2 rfl) (by simp)).trans q1
          have q2' := (hG.cell (p := ⟨w.heap.size, 2, none⟩) (st5.lt 2 rfl) (by simp)).trans q2
          have q3' := (hG.cell (p := ⟨w.heap.size, 3, none⟩) (st5.lt 2 rfl) (by simp)).trans q3
          go_simp
        · intro a u _ hf
          simp [facts, Need.fact, Ent.val, Act.eval] at hf
          refine ⟨_, _, by go_simp, (hvr _).mono ?_⟩
          rintro e w' ⟨rfl, hb⟩
          exact ⟨_, rfl, hb, rfl⟩
        · intro a u _ hf
          simp [facts, Need.fact, Ent.val, Act.eval] at hf
          go_simp
        · intro a u _ hf
          simp [facts, Need.fact, Ent.val, Act.eval] at hf
          go_simp
        · intro a u _ hf
          simp [facts, Need.fact, Ent.val, Act.eval] at hf
          go_simp
        · intro a u _ hf
          simp [facts, Need.fact, Ent.val, Act.eval] at hf
          go_simp
        · intro a u hG hf
          simp [facts, Need.fact, Ent.val, Act.eval] at hf
          have y0' := (hG.cell (p := ⟨b11, 0, none⟩) (st5.lt 0 rfl) (by simp)).trans y0
          have y1' := (hG.cell (p := ⟨b11, 1, none⟩) (st5.lt 0 rfl) (by simp)).trans y1
          have y2' := (hG.cell (p := ⟨b11, 2, none⟩) (st5.lt 0 rfl) (by simp)).trans y2
          have y4' := (hG.cell (p := ⟨b11, 4, none⟩) (st5.lt 0 rfl) (by simp)).trans y4
          have y5' := (hG.cell (p := ⟨b11, 5, none⟩) (st5.lt 0 rfl) (by simp)).trans y5
          have y6' := (hG.cell (p := ⟨b11, 6, none⟩) (st5.lt 0 rfl) (by simp)).trans y6
          have y7' := (hG.cell (p := ⟨b11, 7, none⟩) (st5.lt 0 rfl) (by simp)).trans y7
          have y8' := (hG.cell (p := ⟨b11, 8, none⟩) (st5.lt 0 rfl) (by simp)).trans y8
          have y10' := (hG.cell (p := ⟨b11, 10, none⟩) (st5.lt 0 rfl) (by simp)).trans y10
          have z0' := (hG.cell (p := ⟨b10, 0, none⟩) (st5.lt 1 rfl) (by simp)).trans z0
          have z1' := (hG.cell (p := ⟨b10, 1, none⟩) (st5.lt 1 rfl) (by simp)).trans z1
          have z2' := (hG.cell (p := ⟨b10, 2, none⟩) (st5.lt 1 rfl) (by simp)).trans z2
          have z4' := (hG.cell (p := ⟨b10, 4, none⟩) (st5.lt 1 rfl) (by simp)).trans z4
          have z5' := (hG.cell (p := ⟨b10, 5, none⟩) (st5.lt 1 rfl) (by simp)).trans z5
          have z6' := (hG.cell (p := ⟨b10, 6, none⟩) (st5.lt 1 rfl) (by simp)).trans z6
          have z7' := (hG.cell (p := ⟨b10, 7, none⟩) (st5.lt 1 rfl) (by simp)).trans z7
          have z8' := (hG.cell (p := ⟨b10, 8, none⟩) (st5.lt 1 rfl) (by simp)).trans z8
          have z10' := (hG.cell (p := ⟨b10, 10, none⟩) (st5.lt 1 rfl) (by simp)).trans z10
          have q0' := (hG.cell (p := ⟨w.heap.size, 0, none⟩) (st5.lt 2 rfl) (by simp)).trans q0
          have q1' := (hG.cell (p := ⟨w.heap.size, 1, none⟩) (st5.lt 2 rfl) (by simp)).trans q1
          have q2' := (hG.cell (p := ⟨w.heap.size, 2, none⟩) (st5.lt 2 rfl) (by simp)).trans q2
          have q3' := (hG.cell (p := ⟨w.heap.size, 3, none⟩) (st5.lt 2 rfl) (by simp)).trans q3
          go_simp
        · intro a u _ hf
          simp [facts, Need.fact, Ent.val, Act.eval] at hf
          go_simp
        · intro a u _ hf
          simp [facts, Need.fact, Ent.val, Act.eval] at hf
          go_simp
        · intro a u hG hf
          simp [facts, Need.fact, Ent.val, Act.eval] at hf
          have y0' := (hG.cell (p := ⟨b11, 0, none⟩) (st5.lt 0 rfl) (by simp)).trans y0
          have y1' := (hG.cell (p := ⟨b11, 1, none⟩) (st5.lt 0 rfl) (by simp)).trans y1
          have y2' := (hG.cell (p := ⟨b11, 2, none⟩) (st5.lt 0 rfl) (by simp)).trans y2
          have y4' := (hG.cell (p := ⟨b11, 4, none⟩) (st5.lt 0 rfl) (by simp)).trans y4
          have y5' := (hG.cell (p := ⟨b11, 5, none⟩) (st5.lt 0 rfl) (by simp)).trans y5
          have y6' := (hG.cell (p := ⟨b11, 6, none⟩) (st5.lt 0 rfl) (by simp)).trans y6
          have y7' := (hG.cell (p := ⟨b11, 7, none⟩) (st5.lt 0 rfl) (by simp)).trans y7
          have y8' := (hG.cell (p := ⟨b11, 8, none⟩) (st5.lt 0 rfl) (by simp)).trans y8
          have y10' := (hG.cell (p := ⟨b11, 10, none⟩) (st5.lt 0 rfl) (by simp)).trans y10
          have z0' := (hG.cell (p := ⟨b10, 0, none⟩) (st5.lt 1 rfl) (by simp)).trans z0
          have z1' := (hG.cell (p := ⟨b10, 1, none⟩) (st5.lt 1 rfl) (by simp)).trans z1
          have z2' := (hG.cell (p := ⟨b10, 2, none⟩) (st5.lt 1 rfl) (by simp)).trans z2
          have z4' := (hG.cell (p := ⟨b10, 4, none⟩) (st5.lt 1 rfl) (by simp)).trans z4
          have z5' := (hG.cell (p := ⟨b10, 5, none⟩) (st5.lt 1 rfl) (by simp)).trans z5
          have z6' := (hG.cell (p := ⟨b10, 6, none⟩) (st5.lt 1 rfl) (by simp)).trans z6
          have z7' := (hG.cell (p := ⟨b10, 7, none⟩) (st5.lt 1 rfl) (by simp)).trans z7
          have z8' := (hG.cell (p := ⟨b10, 8, none⟩) (st5.lt 1 rfl) (by simp)).trans z8
          have z10' := (hG.cell (p := ⟨b10, 10, none⟩) (st5.lt 1 rfl) (by simp)).trans z10
          have q0' := (hG.cell (p := ⟨w.heap.size, 0, none⟩) (st5.lt 2 rfl) (by simp)).trans q0
          have q1' := (hG.cell (p := ⟨w.heap.size, 1, none⟩) (st5.lt 2 rfl) (by simp)).trans q1
          have q2' := (hG.cell (p := ⟨w.heap.size, 2, none⟩) (st5.lt 2 rfl) (by simp)).trans q2
          have q3' := (hG.cell (p := ⟨w.heap.size, 3, none⟩) (st5.lt 2 rfl) (by simp)).trans q3
          go_simp
        · intro a u _ hf
          simp [facts, Need.fact, Ent.val, Act.eval] at hf
          go_simp
        · intro a u _ hf
          simp [facts, Need.fact, Ent.val, Act.eval] at hf
          go_simp
        · intro a u _ hf
          simp [facts, Need.fact, Ent.val, Act.eval] at hf
          go_simp
        intro u lw hw wc hKp hE hI hD
        simp only [allE, Ent.val] at hE
        obtain ⟨u0, u1, u2, u3, u4, u5, u6, u7, u8, u9, u10, u11, u12, u13, u14, u15, u16, u17, u18, u19, u20, u21, u22, u23, u24, u25, u26, u27, u28, u29, u30, u31, u32, u33, u34, u35, u36, u37, u38, u39, u40, u41, u42, u43, -⟩ := hE
        simp only [Nat.reduceAdd] at u0 u1 u2 u3 u4 u5 u6 u7 u8 u9 u10 u11 u12 u13 u14 u15 u16 u17 u18 u19 u20 u21 u22 u23 u24 u25 u26 u27 u28 u29 u30 u31 u32 u33 u34 u35 u36 u37 u38 u39 u40 u41 u42 u43
        simp only [allPut, Act.put, Nat.reduceAdd, u0, u1, u2, u3, u4, u5, u6, u7, u8, u9, u10, u11, u12, u13, u14, u15, u16, u17, u18, u19, u20, u21, u22, u23, u24, u25, u26, u27, u28, u29, u30, u31, u32, u33, u34, u35, u36, u37, u38, u39, u40, u41, u42, u43]
        try simp only [List.setIfInBounds_toArray, List.set_cons_zero, List.set_cons_succ]
        clear hI hD u0 u1 u2 u3 u4 u5 u6 u7 u8 u9 u10 u11 u12 u13 u14 u15 u16 u17 u18 u19 u20 u21 u22 u23 u24 u25 u26 u27 u28 u29 u30 u31 u32 u33 u34 u35 u36 u37 u38 u39 u40 u41 u42 u43
        have st9 := st5.keep hKp (fun i x _ => by simp) (fun x hx => by simp at hx)
        have s9 := s5.below hKp.below
        have sx9 := SlR.below hKp.below sx6
        have sy9 := SlR.below hKp.below sy6
        clear hKp st5 s5 sx6 sy6 hea hvr y0 y1 y2 y4 y5 y6 y7 y8 y10 z0 z1 z2 z4 z5 z6 z7 z8 z10 q0 q1 q2 q3
        have p2 := st9.cell 1 rfl 2
        have q0 := st9.cell 2 rfl 0
        have q1 := st9.cell 2 rfl 1
        have q2 := st9.cell 2 rfl 2
        have q3 := st9.cell 2 rfl 3
        simp only [List.getElem?_toArray, List.getElem?_cons_zero, List.getElem?_cons_succ] at p2 q0 q1 q2 q3
        go_wp2_with (go_at_call 13; refine JR.StopM.out ?_)
        refine ⟨?_⟩
        refine (htu _ _ sx9.p).mono ?_
        rintro e w7 ⟨v7, rfl, sm, hb⟩
        have st10 := st9.ext hb
        have s10 := s9.below hb
        have sy10 := SlR.below hb sy9
        clear hb st9 s9 sx9 sy9 htu p2 q0 q1 q2 q3
        obtain ⟨A3, c3, rfl, km⟩ := sm
        obtain ⟨A4, c4, e4, ky⟩ := sy10
        rw [List.length_map] at e4
        cases e4
        rw [List.length_map]
        go_wp2
        go_loopw [97] (fun i wr => ∃ k : Nat, k ≤ l.length ∧ i = .int .i64 k ∧ Below w7.heap.size w7 wr) (fun i _ => l.length - (intOf i).toNat)
        case atStart => exact ⟨0, Nat.zero_le _, rfl, Below.refl _ _⟩
        case round =>
          obtain ⟨k, hkl, rfl, hnx⟩ := hrel
          rcases Nat.lt_or_ge k l.length with hlt | hge
          · obtain ⟨p, hp⟩ : ∃ p, (l.map (tpt KK S DX DY))[k]? = some p := ⟨(l.map (tpt KK S DX DY))[k]'(by simpa using hlt), by simp [hlt]⟩
            obtain ⟨b3, rfl, -, -, g1, g2⟩ := km k p hp
            obtain ⟨b4, rfl, -, -, g3, g4⟩ := ky k p hp
            have g1 := (hnx.cell (World.block_lt_of_cell? _ _ g1)).trans g1
            have g2 := (hnx.cell (World.block_lt_of_cell? _ _ g2)).trans g2
            have g3 := (hnx.cell (World.block_lt_of_cell? _ _ g3)).trans g3
            have g4 := (hnx.cell (World.block_lt_of_cell? _ _ g4)).trans g4
            have hr := (hnx.block b11 (st10.lt 0 rfl)).trans (st10.known 0 _ rfl)
            have y2 := cellAt hr 2
            simp only [Nat.zero_add, List.getElem?_toArray, List.getElem?_cons_zero, List.getElem?_cons_succ] at y2 g1 g2 g3 g4
            have i1 : (k : Int) < (l.length : Int) := by omega
            clear km ky hp hr st10 s10 hclk
            go_upto_region 14 with (fail)
            go_quiet (fail)
            go_wp2
            go_roundw
            case rel => exact ⟨k + 1, by omega, by go_num, below_drewN hnx _⟩
            case measure => simp [intOf]; omega
          · have hkk : k = l.length := by omega
            subst hkk
            have st11 := st10.ext hnx
            have s11 := s10.below hnx
            clear st10 s10 hnx km ky
            clear hclk
            go_wp2_with (go_at_call 6; refine JR.StopM.out ?_)
            refine ⟨?_⟩
            refine (awake_c _).mono ?_
            rintro e wA ⟨rfl, hbA⟩
            have stA := st11.ext hbA
            go_wp2
            go_ret
            exact ⟨rfl, stA.hb⟩
end Go.Proofs.Ytkldjceopjfjhaa
