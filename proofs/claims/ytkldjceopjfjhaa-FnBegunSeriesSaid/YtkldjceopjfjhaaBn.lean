import Derived.Test.YtkldjceopjfjhaaTn
set_option linter.unusedSimpArgs false
set_option linter.unusedVariables false
namespace JR
open Go Go.RowKit
section
variable {P : Program} {ops : Array Oper} {Q : Exit → Act → World → Prop} {G : World → Prop} {B0 : Nat} {plan : List Ent} {a0 : Act} {i : Nat} {o : Oper} {ns : List Need}
theorem unwanted_of {ops : Array Oper} {o : Oper} {a : Act} {j t : Nat} {b : Bool} (hg : o.guard = some (j, b)) (hd : (ops[j]?).bind (·.dst) = some t) (hv : a.eval (.tmp t) = .bool (!b)) : Region.wanted o (yielded ops a.tmps) = false := by
  have h : a.tmps[t]? = some (.bool (!b)) := by
    cases hh : a.tmps[t]? with
    | none => simp [Act.eval, hh, undef] at hv
    | some x => simp [Act.eval, hh] at hv; rw [hv]
  have e : ((ops[j]?).bind (·.dst)).bind (a.tmps[·]?) = some (.bool (!b)) := by simp only [hd]; exact h
  have y : yielded ops a.tmps j = some (!b) := by unfold yielded; simp only [e]
  unfold Region.wanted
  simp [hg, y]
/-- an operation that its guard passes over -/
theorem OpOk.skipG {j t : Nat} {b : Bool} (hg : o.guard = some (j, b)) (hd : (ops[j]?).bind (·.dst) = some t) (hv : ∀ a w, facts plan a0 a w ns → a.eval (.tmp t) = .bool (!b)) :
    OpOk P ops Q G B0 plan a0 i o (.val undef) ns := by
  intro a w _ hf
  refine ⟨fun h => absurd h (by rw [unwanted_of hg hd (hv a w hf)]; decide), fun _ => rfl⟩
end
end JR
namespace Go.Proofs.Ytkldjceopjfjhaa
open Go.RowKit PF JR
theorem eqVP {p q : Int × Int} {b : Bool} (hb : decide (p = q) = b) (u : World) : (binOp .eql 36 (.agg #[.int .i64 p.1, .int .i64 p.2]) (.agg #[.int .i64 q.1, .int .i64 q.2])).run Try.prog u = .ok (.bool b) u := by
  obtain ⟨p1, p2⟩ := p
  obtain ⟨q1, q2⟩ := q
  subst hb
  by_cases e1 : p1 = q1 <;> by_cases e2 : p2 = q2 <;> simp [go_sem, e1, e2]
set_option maxRecDepth 100000 in
set_option maxHeartbeats 8000000 in
theorem begunSer_c (AT KD : Nat) (hAT : AT ≤ 255) (hKD : KD ≤ 255) (l : List (Int × Int)) (hl0 : l.length ≤ 9223372036854775807) (v : Value) (w : World) (hv : SlP w v l) :
    Calls Try.prog 3 #[v, .int .u8 AT, .int .u8 KD] w fun e w' => e = .returned (.bool true) ∧ Below w.heap.size w w' := by
  have st0 := Blk.nil w
  have s0 := hv
  obtain ⟨A0, c0, rfl⟩ := hv.len
  clear hv
  rcases Nat.lt_or_ge 2147483647 l.length with hbig | l1
  · have hbig' : (2147483647 : Int) < (l.length : Int) := by omega
    generalize l.length = n at *
    go_enter Try.func3, Try.ntmps3
    go_wp2
    go_ret
    exact ⟨rfl, st0.hb⟩
  have l2 : ¬ (2147483647 : Int) < (l.length : Int) := by omega
  have hvp := varyPoints_c l 3 12 l1 _ w s0
  generalize hvo : decide ((3 : Int) ≤ l.length ∧ (l.length : Int) ≤ 12 ∧ l.all okP = true) = vo at *
  go_enter Try.func3, Try.ntmps3
  go_wp2_with (go_at_call 5; refine JR.StopM.out ?_)
  refine ⟨?_⟩
  refine hvp.mono ?_
  rintro e w1 ⟨rfl, hb⟩
  have st1 := st0.ext hb
  have s1 := s0.below hb
  clear hb st0 s0 hvp
  cases vo with
  | false =>
    clear hvo
    go_wp2_with (go_at_call 6; refine JR.StopM.out ?_)
    refine ⟨?_⟩
    refine (awake_c _).mono ?_
    rintro e wA ⟨rfl, hbA⟩
    have stA := st1.ext hbA
    go_wp2
    go_ret
    exact ⟨rfl, stA.hb⟩
  | true =>
    have hvo := of_decide_eq_true hvo
    have h3 : 3 ≤ l.length := by omega
    have hl12 : l.length ≤ 12 := by omega
    have hok := okP_bd hvo.2.2
    clear hvo
    obtain ⟨ki, hki, hki2⟩ : ∃ ki : Nat, KD % 3 = ki ∧ ki ≤ 2 := ⟨KD % 3, rfl, by omega⟩
    have hrem : (KD : Int).tmod 3 = (ki : Int) := by rw [Int.tmod_eq_emod_of_nonneg (by omega)]; omega
    clear hki
    obtain ⟨k, hk, hkl⟩ : ∃ k : Nat, AT % l.length = k ∧ k < l.length := ⟨AT % l.length, rfl, Nat.mod_lt _ (by omega)⟩
    have hrem2 : (AT : Int).tmod (l.length : Int) = (k : Int) := by rw [Int.tmod_eq_emod_of_nonneg (by omega), ← hk]; simp
    clear hk
    have hbl : ∀ p ∈ l, Bnd p := fun p hp => by have := hok p hp; unfold Bnd; omega
    have hbm : ∀ b, ∀ p ∈ bgn l k b, Bnd p := fun b p hp => hbl p ((bgn_mem l k b (by omega) p).1 hp)
    have hsx := fun u h => seriesOf_true ki hki2 l hl12 (by omega) (fun _ => h3) hbl (.slice A0 l.length c0) u h
    have hsy := fun v u h => seriesOf_true ki hki2 (bgn l k false) (by rw [bgn_len]; exact hl12) (by rw [bgn_len]; omega) (fun _ => by rw [bgn_len]; exact h3) (hbm false) v u h
    have hsz := fun v u h => seriesOf_true ki hki2 (bgn l k true) (by rw [bgn_len]; exact hl12) (by rw [bgn_len]; omega) (fun _ => by rw [bgn_len]; exact h3) (hbm true) v u h
    unfold SoP at hsx hsy hsz
    rw [bgn_conv l k (by omega), bgn_box l k _ (by omega), bgn_len, bgn_cws l k (by omega)] at hsy
    rw [bgn_convB l k (by omega), bgn_box l k _ (by omega), bgn_len, bgn_cwsB l k (by omega)] at hsz
    have hclk : area l l.length ≠ 0 → decide (0 < - cws l l.length) = !decide (0 < cws l l.length) := fun h => by
      have := cws_area l (by omega)
      rw [← decide_not, decide_eq_decide]
      omega
    generalize decide (0 < - cws l l.length) = cw3 at *
    generalize decide (0 < cws l l.length) = cw at *
    generalize (!(cvs l l.length).1) = cv at *
    generalize (box l).1 = x0 at *
    generalize (box l).2.1 = x1 at *
    generalize (box l).2.2.1 = x2 at *
    generalize (box l).2.2.2 = x3 at *
    generalize nSeg true l = ns1 at *
    generalize nSeg true (bgn l k false) = ns2 at *
    generalize nSeg true (bgn l k true) = ns3 at *
    clear hok hbm
    have wk1 : IntKind.i64.wrap (ki : Int) = (ki : Int) := wrap_in _ (by omega) (by omega)
    have wk2 : IntKind.i64.wrap (AT : Int) = (AT : Int) := wrap_in _ (by omega) (by omega)
    have hvo := varyOf_n l l1 _ _ s1
    go_wp2_with (go_at_call 7; refine JR.StopM.out ?_)
    refine ⟨?_⟩
    refine hvo.mono ?_
    rintro e w2 ⟨vg, rfl, sg2, hb⟩
    have st2 := st1.ext hb
    have s2 := s1.below hb
    have hvb := fun b u h => vBegun_c l k b (by omega) hkl vg u h
    clear hb st1 s1 hvo
    obtain ⟨Ag, cg, rfl⟩ : ∃ A c, vg = .slice A l.length c := by obtain ⟨A, c, h, -⟩ := sg2; exact ⟨A, c, h⟩
    have hn0 : (l.length : Int) ≠ 0 := by omega
    go_wp2_with (go_at_call 8; refine JR.StopM.out ?_)
    refine ⟨?_⟩
    refine (hsx _ s2).mono ?_
    rintro e w3 ⟨A1, c1, B1, m1, d1, bv1, bi1, rfl, -, hb⟩
    have hbx := hb.trans ((Below.refl w3.heap.size w3).alloc (Nat.le_refl _) (.cells #[.int .i64 l.length, .int .i64 ns1, .slice A1 l.length c1, .slice B1 m1 d1, .int .i64 x0, .int .i64 x1, .int .i64 x2, .int .i64 x3, .bool false, .bool bv1, .bool cv, .bool cw, .bool bi1] 32) |>.mono hb.size)
    have st3 := (st2.ext hb).push rfl #[.int .i64 l.length, .int .i64 ns1, .slice A1 l.length c1, .slice B1 m1 d1, .int .i64 x0, .int .i64 x1, .int .i64 x2, .int .i64 x3, .bool false, .bool bv1, .bool cv, .bool cw, .bool bi1] 32
    have sg3 := SlR.below hbx sg2
    clear hb hbx st2 s2 hsx sg2
    go_wp2_with (go_at_call 10; refine JR.StopM.out ?_)
    refine ⟨?_⟩
    refine (hvb false _ sg3.p).mono ?_
    rintro e r2 ⟨va, rfl, sa, hb⟩
    have stx := st3.ext hb
    have sgx := SlR.below hb sg3
    clear hb st3 sg3
    have hto := varyTo_n _ (by rw [bgn_len]; exact l1) _ _ sa.p
    go_wp2_with (go_at_call 9; refine JR.StopM.out ?_)
    refine ⟨?_⟩
    refine hto.mono ?_
    rintro e t2 ⟨vb, rfl, sb, hb⟩
    have sty := stx.ext hb
    have sgy := SlR.below hb sgx
    clear hb stx sgx sa hto
    go_wp2_with (go_at_call 8; refine JR.StopM.out ?_)
    refine ⟨?_⟩
    refine (hsy _ _ sb.p).mono ?_
    rintro e u2 ⟨A2, c2, B2, m2, d2, bv2, bi2, rfl, -, hb⟩
    have hbx := hb.trans ((Below.refl u2.heap.size u2).alloc (Nat.le_refl _) (.cells #[.int .i64 l.length, .int .i64 ns2, .slice A2 l.length c2, .slice B2 m2 d2, .int .i64 x0, .int .i64 x1, .int .i64 x2, .int .i64 x3, .bool false, .bool bv2, .bool cv, .bool cw, .bool bi2] 32) |>.mono hb.size)
    have st4 := (sty.ext hb).push rfl #[.int .i64 l.length, .int .i64 ns2, .slice A2 l.length c2, .slice B2 m2 d2, .int .i64 x0, .int .i64 x1, .int .i64 x2, .int .i64 x3, .bool false, .bool bv2, .bool cv, .bool cw, .bool bi2] 32
    have sg4 := SlR.below hbx sgy
    clear hb hbx sty sgy sb hsy
    go_wp2_with (go_at_call 10; refine JR.StopM.out ?_)
    refine ⟨?_⟩
    refine (hvb true _ sg4.p).mono ?_
    rintro e r3 ⟨va, rfl, sa, hb⟩
    have stx := st4.ext hb
    have sgx := SlR.below hb sg4
    clear hb st4 sg4
    have hto := varyTo_n _ (by rw [bgn_len]; exact l1) _ _ sa.p
    go_wp2_with (go_at_call 9; refine JR.StopM.out ?_)
    refine ⟨?_⟩
    refine hto.mono ?_
    rintro e t3 ⟨vb, rfl, sb, hb⟩
    have sty := stx.ext hb
    have sgy := SlR.below hb sgx
    clear hb stx sgx sa hto
    go_wp2_with (go_at_call 8; refine JR.StopM.out ?_)
    refine ⟨?_⟩
    refine (hsz _ _ sb.p).mono ?_
    rintro e u3 ⟨A3, c3, B3, m3, d3, bv3, bi3, rfl, -, hb⟩
    have hbx := hb.trans ((Below.refl u3.heap.size u3).alloc (Nat.le_refl _) (.cells #[.int .i64 l.length, .int .i64 ns3, .slice A3 l.length c3, .slice B3 m3 d3, .int .i64 x0, .int .i64 x1, .int .i64 x2, .int .i64 x3, .bool false, .bool bv3, .bool cv, .bool cw3, .bool bi3] 32) |>.mono hb.size)
    have st5 := (sty.ext hb).push rfl #[.int .i64 l.length, .int .i64 ns3, .slice A3 l.length c3, .slice B3 m3 d3, .int .i64 x0, .int .i64 x1, .int .i64 x2, .int .i64 x3, .bool false, .bool bv3, .bool cv, .bool cw3, .bool bi3] 32
    have sg5 := SlR.below hbx sgy
    clear hb hbx sty sgy sb hsz
    go_wp2_with (with_reducible refine stop_region ?_)
    refine ⟨?_⟩
    generalize u3.alloc (.cells #[.int .i64 l.length, .int .i64 ns3, .slice A3 l.length c3, .slice B3 m3 d3, .int .i64 x0, .int .i64 x1, .int .i64 x2, .int .i64 x3, .bool false, .bool bv3, .bool cv, .bool cw3, .bool bi3] 32) = w6 at *
    generalize u3.heap.size = b12 at *
    generalize u2.heap.size = b11 at *
    generalize w3.heap.size = b10 at *
    have z0 := st5.cell 0 rfl 0
    have y0 := st5.cell 1 rfl 0
    have x0' := st5.cell 2 rfl 0
    have z4 := st5.cell 0 rfl 4
    have y4 := st5.cell 1 rfl 4
    have x4' := st5.cell 2 rfl 4
    have z5 := st5.cell 0 rfl 5
    have y5 := st5.cell 1 rfl 5
    have x5' := st5.cell 2 rfl 5
    have z6 := st5.cell 0 rfl 6
    have y6 := st5.cell 1 rfl 6
    have x6' := st5.cell 2 rfl 6
    have z7 := st5.cell 0 rfl 7
    have y7 := st5.cell 1 rfl 7
    have x7' := st5.cell 2 rfl 7
    have z8 := st5.cell 0 rfl 8
    have y8 := st5.cell 1 rfl 8
    have x8' := st5.cell 2 rfl 8
    simp only [List.getElem?_toArray, List.getElem?_cons_zero, List.getElem?_cons_succ] at z0 y0 x0' z4 y4 x4' z5 y5 x5' z6 y6 x6' z7 y7 x7' z8 y8 x8'
    have hea := eqArr2
    refine wp_region_K [] [.val (.pointer (some ⟨b10, 4, none⟩)),
        .val (.agg #[.int .i64 x0, .int .i64 x1, .int .i64 x2, .int .i64 x3]),
        .val (.pointer (some ⟨b11, 4, none⟩)),
        .val (.agg #[.int .i64 x0, .int .i64 x1, .int .i64 x2, .int .i64 x3]),
        .val (.bool false),
        .val (.bool false),
        .val (.pointer (some ⟨b10, 4, none⟩)),
        .val (.agg #[.int .i64 x0, .int .i64 x1, .int .i64 x2, .int .i64 x3]),
        .val (.pointer (some ⟨b12, 4, none⟩)),
        .val (.agg #[.int .i64 x0, .int .i64 x1, .int .i64 x2, .int .i64 x3]),
        .val (.bool false),
        .val (.bool false),
        .val (.bool false),
        .val (.pointer (some ⟨b10, 0, none⟩)),
        .val (.int .i64 l.length),
        .val (.pointer (some ⟨b11, 0, none⟩)),
        .val (.int .i64 l.length),
        .val (.bool false),
        .val (.bool false),
        .val (undef),
        .val (undef),
        .val (undef),
        .val (undef),
        .val (undef),
        .val (undef),
        .val (undef),
        .val (undef),
        .val (undef),
        .val (undef),
        .val (.bool false),
        .val (.bool false),
        .val (.bool false),
        .val (.pointer (some ⟨b10, 8, none⟩)),
        .val (.bool false),
        .val (.pointer (some ⟨b11, 8, none⟩)),
        .val (.bool false),
        .val (.bool false),
        .val (.bool false)]
      [[.ini 10], [.frm 0 45], [.ini 11], [.frm 2 47], [.frm 1 46, .frm 3 48], [.frm 4 49], [.frm 5 50, .ini 10], [.frm 5 50, .frm 6 51], [.frm 5 50, .ini 12], [.frm 5 50, .frm 8 53], [.frm 5 50, .frm 7 52, .frm 9 54], [.frm 5 50, .frm 10 55], [.frm 11 56], [.frm 12 57, .ini 10], [.frm 12 57, .frm 13 58], [.frm 12 57, .ini 11], [.frm 12 57, .frm 15 60], [.frm 12 57, .frm 14 59, .frm 16 61], [.frm 12 57, .frm 17 62], [.frm 18 63], [.frm 18 63], [.frm 18 63], [.frm 18 63], [.frm 18 63], [.frm 18 63], [.frm 18 63], [.frm 18 63], [.frm 18 63], [.frm 18 63], [.frm 12 57, .frm 18 63, .frm 28 73], [.frm 12 57, .frm 29 74], [.frm 30 75], [.frm 31 76, .ini 10], [.frm 31 76, .frm 32 77], [.frm 31 76, .ini 11], [.frm 31 76, .frm 34 79], [.frm 31 76, .frm 33 78, .frm 35 80], [.frm 31 76, .frm 36 81]]
      mixed (by kernel_rfl) (by kernel_rfl) (allPre_of ⟨trivial, trivial, trivial, trivial, trivial, trivial, trivial, trivial, trivial, trivial, trivial, trivial, trivial, trivial, trivial, trivial, trivial, trivial, trivial, trivial, trivial, trivial, trivial, trivial, trivial, trivial, trivial, trivial, trivial, trivial, trivial, trivial, trivial, trivial, trivial, trivial, trivial, trivial, trivial⟩)
      ⟨OpOk.quiet rfl ?_,
        OpOk.quiet rfl ?_,
        OpOk.quiet rfl ?_,
        OpOk.quiet rfl ?_,
        OpOk.quiet rfl ?_,
        OpOk.quiet rfl ?_,
        OpOk.quietG rfl (by kernel_rfl) (fun a w hf => by obtain ⟨h1, -⟩ := hf; exact h1.elim fun _ h => h.elim fun _ h => h) ?_,
        OpOk.quietG rfl (by kernel_rfl) (fun a w hf => by obtain ⟨h1, -⟩ := hf; exact h1.elim fun _ h => h.elim fun _ h => h) ?_,
        OpOk.quietG rfl (by kernel_rfl) (fun a w hf => by obtain ⟨h1, -⟩ := hf; exact h1.elim fun _ h => h.elim fun _ h => h) ?_,
        OpOk.quietG rfl (by kernel_rfl) (fun a w hf => by obtain ⟨h1, -⟩ := hf; exact h1.elim fun _ h => h.elim fun _ h => h) ?_,
        OpOk.quietG rfl (by kernel_rfl) (fun a w hf => by obtain ⟨h1, -⟩ := hf; exact h1.elim fun _ h => h.elim fun _ h => h) ?_,
        OpOk.quiet rfl ?_,
        OpOk.quiet rfl ?_,
        OpOk.quietG rfl (by kernel_rfl) (fun a w hf => by obtain ⟨h1, -⟩ := hf; exact h1.elim fun _ h => h.elim fun _ h => h) ?_,
        OpOk.quietG rfl (by kernel_rfl) (fun a w hf => by obtain ⟨h1, -⟩ := hf; exact h1.elim fun _ h => h.elim fun _ h => h) ?_,
        OpOk.quietG rfl (by kernel_rfl) (fun a w hf => by obtain ⟨h1, -⟩ := hf; exact h1.elim fun _ h => h.elim fun _ h => h) ?_,
        OpOk.quietG rfl (by kernel_rfl) (fun a w hf => by obtain ⟨h1, -⟩ := hf; exact h1.elim fun _ h => h.elim fun _ h => h) ?_,
        OpOk.quietG rfl (by kernel_rfl) (fun a w hf => by obtain ⟨h1, -⟩ := hf; exact h1.elim fun _ h => h.elim fun _ h => h) ?_,
        OpOk.quietG rfl (by kernel_rfl) (fun a w hf => by obtain ⟨h1, -⟩ := hf; exact h1.elim fun _ h => h.elim fun _ h => h) ?_,
        OpOk.skipG rfl (by kernel_rfl) (fun a w hf => by obtain ⟨h1, -⟩ := hf; exact h1.elim fun _ h => h.elim fun _ h => h),
        OpOk.skipG rfl (by kernel_rfl) (fun a w hf => by obtain ⟨h1, -⟩ := hf; exact h1.elim fun _ h => h.elim fun _ h => h),
        OpOk.skipG rfl (by kernel_rfl) (fun a w hf => by obtain ⟨h1, -⟩ := hf; exact h1.elim fun _ h => h.elim fun _ h => h),
        OpOk.skipG rfl (by kernel_rfl) (fun a w hf => by obtain ⟨h1, -⟩ := hf; exact h1.elim fun _ h => h.elim fun _ h => h),
        OpOk.skipG rfl (by kernel_rfl) (fun a w hf => by obtain ⟨h1, -⟩ := hf; exact h1.elim fun _ h => h.elim fun _ h => h),
        OpOk.skipG rfl (by kernel_rfl) (fun a w hf => by obtain ⟨h1, -⟩ := hf; exact h1.elim fun _ h => h.elim fun _ h => h),
        OpOk.skipG rfl (by kernel_rfl) (fun a w hf => by obtain ⟨h1, -⟩ := hf; exact h1.elim fun _ h => h.elim fun _ h => h),
        OpOk.skipG rfl (by kernel_rfl) (fun a w hf => by obtain ⟨h1, -⟩ := hf; exact h1.elim fun _ h => h.elim fun _ h => h),
        OpOk.skipG rfl (by kernel_rfl) (fun a w hf => by obtain ⟨h1, -⟩ := hf; exact h1.elim fun _ h => h.elim fun _ h => h),
        OpOk.skipG rfl (by kernel_rfl) (fun a w hf => by obtain ⟨h1, -⟩ := hf; exact h1.elim fun _ h => h.elim fun _ h => h),
        OpOk.quietG rfl (by kernel_rfl) (fun a w hf => by obtain ⟨h1, -⟩ := hf; exact h1.elim fun _ h => h.elim fun _ h => h) ?_,
        OpOk.quiet rfl ?_,
        OpOk.quiet rfl ?_,
        OpOk.quietG rfl (by kernel_rfl) (fun a w hf => by obtain ⟨h1, -⟩ := hf; exact h1.elim fun _ h => h.elim fun _ h => h) ?_,
        OpOk.quietG rfl (by kernel_rfl) (fun a w hf => by obtain ⟨h1, -⟩ := hf; exact h1.elim fun _ h => h.elim fun _ h => h) ?_,
        OpOk.quietG rfl (by kernel_rfl) (fun a w hf => by obtain ⟨h1, -⟩ := hf; exact h1.elim fun _ h => h.elim fun _ h => h) ?_,
        OpOk.quietG rfl (by kernel_rfl) (fun a w hf => by obtain ⟨h1, -⟩ := hf; exact h1.elim fun _ h => h.elim fun _ h => h) ?_,
        OpOk.quietG rfl (by kernel_rfl) (fun a w hf => by obtain ⟨h1, -⟩ := hf; exact h1.elim fun _ h => h.elim fun _ h => h) ?_,
        OpOk.quiet rfl ?_, trivial⟩ ?_
    · intro a u _ hf
      simp [facts, Need.fact, Ent.val, Act.eval] at hf
      go_simp
    · intro a u hG hf
      simp [facts, Need.fact, Ent.val, Act.eval] at hf
      have z01 := (hG.cell (p := ⟨b12, 0, none⟩) (st5.lt 0 rfl) (by simp)).trans z0
      have z41 := (hG.cell (p := ⟨b12, 4, none⟩) (st5.lt 0 rfl) (by simp)).trans z4
      have z51 := (hG.cell (p := ⟨b12, 5, none⟩) (st5.lt 0 rfl) (by simp)).trans z5
      have z61 := (hG.cell (p := ⟨b12, 6, none⟩) (st5.lt 0 rfl) (by simp)).trans z6
      have z71 := (hG.cell (p := ⟨b12, 7, none⟩) (st5.lt 0 rfl) (by simp)).trans z7
      have z81 := (hG.cell (p := ⟨b12, 8, none⟩) (st5.lt 0 rfl) (by simp)).trans z8
      have y01 := (hG.cell (p := ⟨b11, 0, none⟩) (st5.lt 1 rfl) (by simp)).trans y0
      have y41 := (hG.cell (p := ⟨b11, 4, none⟩) (st5.lt 1 rfl) (by simp)).trans y4
      have y51 := (hG.cell (p := ⟨b11, 5, none⟩) (st5.lt 1 rfl) (by simp)).trans y5
      have y61 := (hG.cell (p := ⟨b11, 6, none⟩) (st5.lt 1 rfl) (by simp)).trans y6
      have y71 := (hG.cell (p := ⟨b11, 7, none⟩) (st5.lt 1 rfl) (by simp)).trans y7
      have y81 := (hG.cell (p := ⟨b11, 8, none⟩) (st5.lt 1 rfl) (by simp)).trans y8
      have x0'1 := (hG.cell (p := ⟨b10, 0, none⟩) (st5.lt 2 rfl) (by simp)).trans x0'
      have x4'1 := (hG.cell (p := ⟨b10, 4, none⟩) (st5.lt 2 rfl) (by simp)).trans x4'
      have x5'1 := (hG.cell (p := ⟨b10, 5, none⟩) (st5.lt 2 rfl) (by simp)).trans x5'
      have x6'1 := (hG.cell (p := ⟨b10, 6, none⟩) (st5.lt 2 rfl) (by simp)).trans x6'
      have x7'1 := (hG.cell (p := ⟨b10, 7, none⟩) (st5.lt 2 rfl) (by simp)).trans x7'
      have x8'1 := (hG.cell (p := ⟨b10, 8, none⟩) (st5.lt 2 rfl) (by simp)).trans x8'
      go_simp
    · intro a u _ hf
      simp [facts, Need.fact, Ent.val, Act.eval] at hf
      go_simp
    · intro a u hG hf
      simp [facts, Need.fact, Ent.val, Act.eval] at hf
      have z01 := (hG.cell (p := ⟨b12, 0, none⟩) (st5.lt 0 rfl) (by simp)).trans z0
      have z41 := (hG.cell (p := ⟨b12, 4, none⟩) (st5.lt 0 rfl) (by simp)).trans z4
      have z51 := (hG.cell (p := ⟨b12, 5, none⟩) (st5.lt 0 rfl) (by simp)).trans z5
      have z61 := (hG.cell (p := ⟨b12, 6, none⟩) (st5.lt 0 rfl) (by simp)).trans z6
      have z71 := (hG.cell (p := ⟨b12, 7, none⟩) (st5.lt 0 rfl) (by simp)).trans z7
      have z81 := (hG.cell (p := ⟨b12, 8, none⟩) (st5.lt 0 rfl) (by simp)).trans z8
      have y01 := (hG.cell (p := ⟨b11, 0, none⟩) (st5.lt 1 rfl) (by simp)).trans y0
      have y41 := (hG.cell (p := ⟨b11, 4, none⟩) (st5.lt 1 rfl) (by simp)).trans y4
      have y51 := (hG.cell (p := ⟨b11, 5, none⟩) (st5.lt 1 rfl) (by simp)).trans y5
      have y61 := (hG.cell (p := ⟨b11, 6, none⟩) (st5.lt 1 rfl) (by simp)).trans y6
      have y71 := (hG.cell (p := ⟨b11, 7, none⟩) (st5.lt 1 rfl) (by simp)).trans y7
      have y81 := (hG.cell (p := ⟨b11, 8, none⟩) (st5.lt 1 rfl) (by simp)).trans y8
      have x0'1 := (hG.cell (p := ⟨b10, 0, none⟩) (st5.lt 2 rfl) (by simp)).trans x0'
      have x4'1 := (hG.cell (p := ⟨b10, 4, none⟩) (st5.lt 2 rfl) (by simp)).trans x4'
      have x5'1 := (hG.cell (p := ⟨b10, 5, none⟩) (st5.lt 2 rfl) (by simp)).trans x5'
      have x6'1 := (hG.cell (p := ⟨b10, 6, none⟩) (st5.lt 2 rfl) (by simp)).trans x6'
      have x7'1 := (hG.cell (p := ⟨b10, 7, none⟩) (st5.lt 2 rfl) (by simp)).trans x7'
      have x8'1 := (hG.cell (p := ⟨b10, 8, none⟩) (st5.lt 2 rfl) (by simp)).trans x8'
      go_simp
    · intro a u _ hf
      simp [facts, Need.fact, Ent.val, Act.eval] at hf
      go_simp
    · intro a u _ hf
      simp [facts, Need.fact, Ent.val, Act.eval] at hf
      go_simp
    · intro a u _ hf
      simp [facts, Need.fact, Ent.val, Act.eval] at hf
      go_simp
    · intro a u hG hf
      simp [facts, Need.fact, Ent.val, Act.eval] at hf
      have z01 := (hG.cell (p := ⟨b12, 0, none⟩) (st5.lt 0 rfl) (by simp)).trans z0
      have z41 := (hG.cell (p := ⟨b12, 4, none⟩) (st5.lt 0 rfl) (by simp)).trans z4
      have z51 := (hG.cell (p := ⟨b12, 5, none⟩) (st5.lt 0 rfl) (by simp)).trans z5
      have z61 := (hG.cell (p := ⟨b12, 6, none⟩) (st5.lt 0 rfl) (by simp)).trans z6
      have z71 := (hG.cell (p := ⟨b12, 7, none⟩) (st5.lt 0 rfl) (by simp)).trans z7
      have z81 := (hG.cell (p := ⟨b12, 8, none⟩) (st5.lt 0 rfl) (by simp)).trans z8
      have y01 := (hG.cell (p := ⟨b11, 0, none⟩) (st5.lt 1 rfl) (by simp)).trans y0
      have y41 := (hG.cell (p := ⟨b11, 4, none⟩) (st5.lt 1 rfl) (by simp)).trans y4
      have y51 := (hG.cell (p := ⟨b11, 5, none⟩) (st5.lt 1 rfl) (by simp)).trans y5
      have y61 := (hG.cell (p := ⟨b11, 6, none⟩) (st5.lt 1 rfl) (by simp)).trans y6
      have y71 := (hG.cell (p := ⟨b11, 7, none⟩) (st5.lt 1 rfl) (by simp)).trans y7
      have y81 := (hG.cell (p := ⟨b11, 8, none⟩) (st5.lt 1 rfl) (by simp)).trans y8
      have x0'1 := (hG.cell (p := ⟨b10, 0, none⟩) (st5.lt 2 rfl) (by simp)).trans x0'
      have x4'1 := (hG.cell (p := ⟨b10, 4, none⟩) (st5.lt 2 rfl) (by simp)).trans x4'
      have x5'1 := (hG.cell (p := ⟨b10, 5, none⟩) (st5.lt 2 rfl) (by simp)).trans x5'
      have x6'1 := (hG.cell (p := ⟨b10, 6, none⟩) (st5.lt 2 rfl) (by simp)).trans x6'
      have x7'1 := (hG.cell (p := ⟨b10, 7, none⟩) (st5.lt 2 rfl) (by simp)).trans x7'
      have x8'1 := (hG.cell (p := ⟨b10, 8, none⟩) (st5.lt 2 rfl) (by simp)).trans x8'
      go_simp
    · intro a u _ hf
      simp [facts, Need.fact, Ent.val, Act.eval] at hf
      go_simp
    · intro a u hG hf
      simp [facts, Need.fact, Ent.val, Act.eval] at hf
      have z01 := (hG.cell (p := ⟨b12, 0, none⟩) (st5.lt 0 rfl) (by simp)).trans z0
      have z41 := (hG.cell (p := ⟨b12, 4, none⟩) (st5.lt 0 rfl) (by simp)).trans z4
      have z51 := (hG.cell (p := ⟨b12, 5, none⟩) (st5.lt 0 rfl) (by simp)).trans z5
      have z61 := (hG.cell (p := ⟨b12, 6, none⟩) (st5.lt 0 rfl) (by simp)).trans z6
      have z71 := (hG.cell (p := ⟨b12, 7, none⟩) (st5.lt 0 rfl) (by simp)).trans z7
      have z81 := (hG.cell (p := ⟨b12, 8, none⟩) (st5.lt 0 rfl) (by simp)).trans z8
      have y01 := (hG.cell (p := ⟨b11, 0, none⟩) (st5.lt 1 rfl) (by simp)).trans y0
      have y41 := (hG.cell (p := ⟨b11, 4, none⟩) (st5.lt 1 rfl) (by simp)).trans y4
      have y51 := (hG.cell (p := ⟨b11, 5, none⟩) (st5.lt 1 rfl) (by simp)).trans y5
      have y61 := (hG.cell (p := ⟨b11, 6, none⟩) (st5.lt 1 rfl) (by simp)).trans y6
      have y71 := (hG.cell (p := ⟨b11, 7, none⟩) (st5.lt 1 rfl) (by simp)).trans y7
      have y81 := (hG.cell (p := ⟨b11, 8, none⟩) (st5.lt 1 rfl) (by simp)).trans y8
      have x0'1 := (hG.cell (p := ⟨b10, 0, none⟩) (st5.lt 2 rfl) (by simp)).trans x0'
      have x4'1 := (hG.cell (p := ⟨b10, 4, none⟩) (st5.lt 2 rfl) (by simp)).trans x4'
      have x5'1 := (hG.cell (p := ⟨b10, 5, none⟩) (st5.lt 2 rfl) (by simp)).trans x5'
      have x6'1 := (hG.cell (p := ⟨b10, 6, none⟩) (st5.lt 2 rfl) (by simp)).trans x6'
      have x7'1 := (hG.cell (p := ⟨b10, 7, none⟩) (st5.lt 2 rfl) (by simp)).trans x7'
      have x8'1 := (hG.cell (p := ⟨b10, 8, none⟩) (st5.lt 2 rfl) (by simp)).trans x8'
      go_simp
    · intro a u _ hf
      simp [facts, Need.fact, Ent.val, Act.eval] at hf
      go_simp
    · intro a u _ hf
      simp [facts, Need.fact, Ent.val, Act.eval] at hf
      go_simp
    · intro a u _ hf
      simp [facts, Need.fact, Ent.val, Act.eval] at hf
      go_simp
    · intro a u _ hf
      simp [facts, Need.fact, Ent.val, Act.eval] at hf
      go_simp
    · intro a u hG hf
      simp [facts, Need.fact, Ent.val, Act.eval] at hf
      have z01 := (hG.cell (p := ⟨b12, 0, none⟩) (st5.lt 0 rfl) (by simp)).trans z0
      have z41 := (hG.cell (p := ⟨b12, 4, none⟩) (st5.lt 0 rfl) (by simp)).trans z4
      have z51 := (hG.cell (p := ⟨b12, 5, none⟩) (st5.lt 0 rfl) (by simp)).trans z5
      have z61 := (hG.cell (p := ⟨b12, 6, none⟩) (st5.lt 0 rfl) (by simp)).trans z6
      have z71 := (hG.cell (p := ⟨b12, 7, none⟩) (st5.lt 0 rfl) (by simp)).trans z7
      have z81 := (hG.cell (p := ⟨b12, 8, none⟩) (st5.lt 0 rfl) (by simp)).trans z8
      have y01 := (hG.cell (p := ⟨b11, 0, none⟩) (st5.lt 1 rfl) (by simp)).trans y0
      have y41 := (hG.cell (p := ⟨b11, 4, none⟩) (st5.lt 1 rfl) (by simp)).trans y4
      have y51 := (hG.cell (p := ⟨b11, 5, none⟩) (st5.lt 1 rfl) (by simp)).trans y5
      have y61 := (hG.cell (p := ⟨b11, 6, none⟩) (st5.lt 1 rfl) (by simp)).trans y6
      have y71 := (hG.cell (p := ⟨b11, 7, none⟩) (st5.lt 1 rfl) (by simp)).trans y7
      have y81 := (hG.cell (p := ⟨b11, 8, none⟩) (st5.lt 1 rfl) (by simp)).trans y8
      have x0'1 := (hG.cell (p := ⟨b10, 0, none⟩) (st5.lt 2 rfl) (by simp)).trans x0'
      have x4'1 := (hG.cell (p := ⟨b10, 4, none⟩) (st5.lt 2 rfl) (by simp)).trans x4'
      have x5'1 := (hG.cell (p := ⟨b10, 5, none⟩) (st5.lt 2 rfl) (by simp)).trans x5'
      have x6'1 := (hG.cell (p := ⟨b10, 6, none⟩) (st5.lt 2 rfl) (by simp)).trans x6'
      have x7'1 := (hG.cell (p := ⟨b10, 7, none⟩) (st5.lt 2 rfl) (by simp)).trans x7'
      have x8'1 := (hG.cell (p := ⟨b10, 8, none⟩) (st5.lt 2 rfl) (by simp)).trans x8'
      go_simp
    · intro a u _ hf
      simp [facts, Need.fact, Ent.val, Act.eval] at hf
      go_simp
    · intro a u hG hf
      simp [facts, Need.fact, Ent.val, Act.eval] at hf
      have z01 := (hG.cell (p := ⟨b12, 0, none⟩) (st5.lt 0 rfl) (by simp)).trans z0
      have z41 := (hG.cell (p := ⟨b12, 4, none⟩) (st5.lt 0 rfl) (by simp)).trans z4
      have z51 := (hG.cell (p := ⟨b12, 5, none⟩) (st5.lt 0 rfl) (by simp)).trans z5
      have z61 := (hG.cell (p := ⟨b12, 6, none⟩) (st5.lt 0 rfl) (by simp)).trans z6
      have z71 := (hG.cell (p := ⟨b12, 7, none⟩) (st5.lt 0 rfl) (by simp)).trans z7
      have z81 := (hG.cell (p := ⟨b12, 8, none⟩) (st5.lt 0 rfl) (by simp)).trans z8
      have y01 := (hG.cell (p := ⟨b11, 0, none⟩) (st5.lt 1 rfl) (by simp)).trans y0
      have y41 := (hG.cell (p := ⟨b11, 4, none⟩) (st5.lt 1 rfl) (by simp)).trans y4
      have y51 := (hG.cell (p := ⟨b11, 5, none⟩) (st5.lt 1 rfl) (by simp)).trans y5
      have y61 := (hG.cell (p := ⟨b11, 6, none⟩) (st5.lt 1 rfl) (by simp)).trans y6
      have y71 := (hG.cell (p := ⟨b11, 7, none⟩) (st5.lt 1 rfl) (by simp)).trans y7
      have y81 := (hG.cell (p := ⟨b11, 8, none⟩) (st5.lt 1 rfl) (by simp)).trans y8
      have x0'1 := (hG.cell (p := ⟨b10, 0, none⟩) (st5.lt 2 rfl) (by simp)).trans x0'
      have x4'1 := (hG.cell (p := ⟨b10, 4, none⟩) (st5.lt 2 rfl) (by simp)).trans x4'
      have x5'1 := (hG.cell (p := ⟨b10, 5, none⟩) (st5.lt 2 rfl) (by simp)).trans x5'
      have x6'1 := (hG.cell (p := ⟨b10, 6, none⟩) (st5.lt 2 rfl) (by simp)).trans x6'
      have x7'1 := (hG.cell (p := ⟨b10, 7, none⟩) (st5.lt 2 rfl) (by simp)).trans x7'
      have x8'1 := (hG.cell (p := ⟨b10, 8, none⟩) (st5.lt 2 rfl) (by simp)).trans x8'
      go_simp
    · intro a u _ hf
      simp [facts, Need.fact, Ent.val, Act.eval] at hf
      go_simp
    · intro a u _ hf
      simp [facts, Need.fact, Ent.val, Act.eval] at hf
      go_simp
    · intro a u _ hf
      simp [facts, Need.fact, Ent.val, Act.eval] at hf
      go_simp
    · intro a u _ hf
      simp [facts, Need.fact, Ent.val, Act.eval] at hf
      go_simp
    · intro a u _ hf
      simp [facts, Need.fact, Ent.val, Act.eval] at hf
      go_simp
    · intro a u _ hf
      simp [facts, Need.fact, Ent.val, Act.eval] at hf
      go_simp
    · intro a u hG hf
      simp [facts, Need.fact, Ent.val, Act.eval] at hf
      have z01 := (hG.cell (p := ⟨b12, 0, none⟩) (st5.lt 0 rfl) (by simp)).trans z0
      have z41 := (hG.cell (p := ⟨b12, 4, none⟩) (st5.lt 0 rfl) (by simp)).trans z4
      have z51 := (hG.cell (p := ⟨b12, 5, none⟩) (st5.lt 0 rfl) (by simp)).trans z5
      have z61 := (hG.cell (p := ⟨b12, 6, none⟩) (st5.lt 0 rfl) (by simp)).trans z6
      have z71 := (hG.cell (p := ⟨b12, 7, none⟩) (st5.lt 0 rfl) (by simp)).trans z7
      have z81 := (hG.cell (p := ⟨b12, 8, none⟩) (st5.lt 0 rfl) (by simp)).trans z8
      have y01 := (hG.cell (p := ⟨b11, 0, none⟩) (st5.lt 1 rfl) (by simp)).trans y0
      have y41 := (hG.cell (p := ⟨b11, 4, none⟩) (st5.lt 1 rfl) (by simp)).trans y4
      have y51 := (hG.cell (p := ⟨b11, 5, none⟩) (st5.lt 1 rfl) (by simp)).trans y5
      have y61 := (hG.cell (p := ⟨b11, 6, none⟩) (st5.lt 1 rfl) (by simp)).trans y6
      have y71 := (hG.cell (p := ⟨b11, 7, none⟩) (st5.lt 1 rfl) (by simp)).trans y7
      have y81 := (hG.cell (p := ⟨b11, 8, none⟩) (st5.lt 1 rfl) (by simp)).trans y8
      have x0'1 := (hG.cell (p := ⟨b10, 0, none⟩) (st5.lt 2 rfl) (by simp)).trans x0'
      have x4'1 := (hG.cell (p := ⟨b10, 4, none⟩) (st5.lt 2 rfl) (by simp)).trans x4'
      have x5'1 := (hG.cell (p := ⟨b10, 5, none⟩) (st5.lt 2 rfl) (by simp)).trans x5'
      have x6'1 := (hG.cell (p := ⟨b10, 6, none⟩) (st5.lt 2 rfl) (by simp)).trans x6'
      have x7'1 := (hG.cell (p := ⟨b10, 7, none⟩) (st5.lt 2 rfl) (by simp)).trans x7'
      have x8'1 := (hG.cell (p := ⟨b10, 8, none⟩) (st5.lt 2 rfl) (by simp)).trans x8'
      go_simp
    · intro a u _ hf
      simp [facts, Need.fact, Ent.val, Act.eval] at hf
      go_simp
    · intro a u hG hf
      simp [facts, Need.fact, Ent.val, Act.eval] at hf
      have z01 := (hG.cell (p := ⟨b12, 0, none⟩) (st5.lt 0 rfl) (by simp)).trans z0
      have z41 := (hG.cell (p := ⟨b12, 4, none⟩) (st5.lt 0 rfl) (by simp)).trans z4
      have z51 := (hG.cell (p := ⟨b12, 5, none⟩) (st5.lt 0 rfl) (by simp)).trans z5
      have z61 := (hG.cell (p := ⟨b12, 6, none⟩) (st5.lt 0 rfl) (by simp)).trans z6
      have z71 := (hG.cell (p := ⟨b12, 7, none⟩) (st5.lt 0 rfl) (by simp)).trans z7
      have z81 := (hG.cell (p := ⟨b12, 8, none⟩) (st5.lt 0 rfl) (by simp)).trans z8
      have y01 := (hG.cell (p := ⟨b11, 0, none⟩) (st5.lt 1 rfl) (by simp)).trans y0
      have y41 := (hG.cell (p := ⟨b11, 4, none⟩) (st5.lt 1 rfl) (by simp)).trans y4
      have y51 := (hG.cell (p := ⟨b11, 5, none⟩) (st5.lt 1 rfl) (by simp)).trans y5
      have y61 := (hG.cell (p := ⟨b11, 6, none⟩) (st5.lt 1 rfl) (by simp)).trans y6
      have y71 := (hG.cell (p := ⟨b11, 7, none⟩) (st5.lt 1 rfl) (by simp)).trans y7
      have y81 := (hG.cell (p := ⟨b11, 8, none⟩) (st5.lt 1 rfl) (by simp)).trans y8
      have x0'1 := (hG.cell (p := ⟨b10, 0, none⟩) (st5.lt 2 rfl) (by simp)).trans x0'
      have x4'1 := (hG.cell (p := ⟨b10, 4, none⟩) (st5.lt 2 rfl) (by simp)).trans x4'
      have x5'1 := (hG.cell (p := ⟨b10, 5, none⟩) (st5.lt 2 rfl) (by simp)).trans x5'
      have x6'1 := (hG.cell (p := ⟨b10, 6, none⟩) (st5.lt 2 rfl) (by simp)).trans x6'
      have x7'1 := (hG.cell (p := ⟨b10, 7, none⟩) (st5.lt 2 rfl) (by simp)).trans x7'
      have x8'1 := (hG.cell (p := ⟨b10, 8, none⟩) (st5.lt 2 rfl) (by simp)).trans x8'
      go_simp
    · intro a u _ hf
      simp [facts, Need.fact, Ent.val, Act.eval] at hf
      go_simp
    · intro a u _ hf
      simp [facts, Need.fact, Ent.val, Act.eval] at hf
      go_simp
    intro u lw hw wc hKp hE hI hD
    simp only [allE, Ent.val] at hE
    obtain ⟨u0, u1, u2, u3, u4, u5, u6, u7, u8, u9, u10, u11, u12, u13, u14, u15, u16, u17, u18, u19, u20, u21, u22, u23, u24, u25, u26, u27, u28, u29, u30, u31, u32, u33, u34, u35, u36, u37, -⟩ := hE
    simp only [Nat.reduceAdd] at u0 u1 u2 u3 u4 u5 u6 u7 u8 u9 u10 u11 u12 u13 u14 u15 u16 u17 u18 u19 u20 u21 u22 u23 u24 u25 u26 u27 u28 u29 u30 u31 u32 u33 u34 u35 u36 u37
    simp only [allPut, Act.put, Nat.reduceAdd, u0, u1, u2, u3, u4, u5, u6, u7, u8, u9, u10, u11, u12, u13, u14, u15, u16, u17, u18, u19, u20, u21, u22, u23, u24, u25, u26, u27, u28, u29, u30, u31, u32, u33, u34, u35, u36, u37]
    try simp only [List.setIfInBounds_toArray, List.set_cons_zero, List.set_cons_succ]
    clear hI hD u0 u1 u2 u3 u4 u5 u6 u7 u8 u9 u10 u11 u12 u13 u14 u15 u16 u17 u18 u19 u20 u21 u22 u23 u24 u25 u26 u27 u28 u29 u30 u31 u32 u33 u34 u35 u36 u37
    have st9 := st5.keep hKp (fun i x _ => by simp) (fun x hx => by simp at hx)
    have sg9 := SlR.below hKp.below sg5
    clear hKp st5 sg5 hea z0 z4 z5 z6 z7 z8 y0 y4 y5 y6 y7 y8 x0' x4' x5' x6' x7' x8'
    go_wp2_with (go_at_call 11; refine JR.StopM.out ?_)
    refine ⟨?_⟩
    refine (vArea_c l (by omega) hbl _ _ sg9.p).mono ?_
    rintro e w9 ⟨rfl, hb⟩
    have st10 := st9.ext hb
    have sg10 := SlR.below hb sg9
    clear hb st9 sg9
    by_cases hz : area l l.length = 0
    · rw [hz]
      clear hclk
      go_wp2_with (go_at_call 6; refine JR.StopM.out ?_)
      refine ⟨?_⟩
      refine (awake_c _).mono ?_
      rintro e wA ⟨rfl, hbA⟩
      have stA := st10.ext hbA
      go_wp2
      go_ret
      exact ⟨rfl, stA.hb⟩
    · have hc3 := hclk hz
      clear hclk hbl
      generalize area l l.length = ar at *
      obtain ⟨A', c', e', kg⟩ := sg10
      cases e'
      have hq0 := at_get (show 0 < l.length by omega)
      have hq1 := at_get (show l.length - 1 < l.length by omega)
      have hq2 := at_get hkl
      have hq3 := at_get (show (k + l.length - 1) % l.length < l.length from Nat.mod_lt _ (by omega))
      obtain ⟨bg, rfl, -, -, e1, e2⟩ := kg 0 _ hq0
      obtain ⟨b', e', -, -, e3, e4⟩ := kg _ _ hq1
      cases e'
      obtain ⟨b', e', -, -, e5, e6⟩ := kg _ _ hq2
      cases e'
      obtain ⟨b', e', -, -, e7, e8⟩ := kg _ _ hq3
      cases e'
      have i1 : (0 : Int) < (l.length : Int) := by omega
      have i2 : 0 < l.length := by omega
      have i3 : (k : Int) < (l.length : Int) := by omega
      have i4 : ((k : Int) + (l.length : Int) - 1).tmod (l.length : Int) = ((k + l.length - 1) % l.length : Nat) := by
        rw [Int.tmod_eq_emod_of_nonneg (by omega), show (k : Int) + (l.length : Int) - 1 = ((k + l.length - 1 : Nat) : Int) from by omega]; simp
      have i5 : (((k + l.length - 1) % l.length : Nat) : Int) < (l.length : Int) := by have := Nat.mod_lt (k + l.length - 1) i2; omega
      obtain ⟨M, hM⟩ : ∃ M, M = l.length - 1 := ⟨_, rfl⟩
      rw [← hM] at e3 e4 hq1
      have i6 : (M : Int) < (l.length : Int) := by omega
      have i7 : (l.length : Int) - 1 = M := by omega
      have iw : IntKind.i64.wrap (M : Int) = (M : Int) := wrap_in _ (by omega) (by omega)
      have iw2 : IntKind.i64.wrap ((k : Int) + (l.length : Int)) = (k : Int) + (l.length : Int) := wrap_in _ (by omega) (by omega)
      have iw3 : IntKind.i64.wrap ((k : Int) + (l.length : Int) - 1) = (k : Int) + (l.length : Int) - 1 := wrap_in _ (by omega) (by omega)
      generalize (k + l.length - 1) % l.length = k2 at *
      simp only [Nat.zero_add, Nat.zero_mul] at e1 e2 e3 e4 e5 e6 e7 e8
      clear hq0 hq1 hq2 hq3 kg hM h3 hl12 l1
      generalize at' l 0 = p0 at *
      generalize at' l M = p1 at *
      generalize at' l k = p2 at *
      generalize at' l k2 = p3 at *
      have y7 := st10.cell 1 rfl 10
      have z7 := st10.cell 0 rfl 10
      have x7 := st10.cell 2 rfl 10
      have y8 := st10.cell 1 rfl 11
      have z8 := st10.cell 0 rfl 11
      have x8 := st10.cell 2 rfl 11
      simp only [List.getElem?_toArray, List.getElem?_cons_zero, List.getElem?_cons_succ] at y7 z7 x7 y8 z8 x8
      by_cases c1 : p0 = p1
      · have g1 := fun u => eqVP (p := p0) (q := p1) (decide_eq_true c1) u
        clear c1
        go_upto_region 15 with (fail)
        go_quiet (fail)
        have stq := st10.drewK nq
        go_wp2_with (go_at_call 6; refine JR.StopM.out ?_)
        refine ⟨?_⟩
        refine (awake_c _).mono ?_
        rintro e wA ⟨rfl, hbA⟩
        have stA := stq.ext hbA
        go_wp2
        go_ret
        exact ⟨rfl, stA.hb⟩
      · have g1 := fun u => eqVP (p := p0) (q := p1) (decide_eq_false c1) u
        clear c1
        by_cases c2 : p2 = p3
        · have g2 := fun u => eqVP (p := p2) (q := p3) (decide_eq_true c2) u
          clear c2
          go_upto_region 15 with (fail)
          go_quiet (fail)
          have stq := st10.drewK nq
          go_wp2_with (go_at_call 6; refine JR.StopM.out ?_)
          refine ⟨?_⟩
          refine (awake_c _).mono ?_
          rintro e wA ⟨rfl, hbA⟩
          have stA := stq.ext hbA
          go_wp2
          go_ret
          exact ⟨rfl, stA.hb⟩
        · have g2 := fun u => eqVP (p := p2) (q := p3) (decide_eq_false c2) u
          clear c2
          subst hc3
          cases cw with
          | true =>
            go_upto_region 15 with (fail)
            go_quiet (fail)
            have stq := st10.drewK nq
            go_wp2_with (go_at_call 6; refine JR.StopM.out ?_)
            refine ⟨?_⟩
            refine (awake_c _).mono ?_
            rintro e wA ⟨rfl, hbA⟩
            have stA := stq.ext hbA
            go_wp2
            go_ret
            exact ⟨rfl, stA.hb⟩
          | false =>
            go_upto_region 15 with (fail)
            go_quiet (fail)
            have stq := st10.drewK nq
            go_wp2_with (go_at_call 6; refine JR.StopM.out ?_)
            refine ⟨?_⟩
            refine (awake_c _).mono ?_
            rintro e wA ⟨rfl, hbA⟩
            have stA := stq.ext hbA
            go_wp2
            go_ret
            exact ⟨rfl, stA.hb⟩
end Go.Proofs.Ytkldjceopjfjhaa
