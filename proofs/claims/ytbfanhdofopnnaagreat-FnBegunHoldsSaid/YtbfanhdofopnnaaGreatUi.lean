import Derived.Test.YtbfanhdofopnnaaGreatQY
import Derived.Test.YtbfanhdofopnnaaGreatQU
import Derived.Test.YtbfanhdofopnnaaGreatQX
import Derived.Test.YtbfanhdofopnnaaGreatAwake
import Derived.Test.YtbfanhdofopnnaaGreatQM
set_option linter.unusedSimpArgs false
set_option linter.unusedVariables false
/-! FnBegunHolds: the plain law and the walk (printed by gen/ui.py). -/
namespace JR
open Go Go.RowKit PF
/-- a shape of these holes whose points lie in new blocks -/
def Ent.shwH (K : Int) (L : List (Int × Int)) (s : Value) : Ent :=
  .rel (fun v lo hi w => ∃ x, v = .agg #[.int .i64 K, x, s] ∧ SlR lo hi w x L) (fun _ _ _ _ _ hk ⟨x, h1, h2⟩ => ⟨x, h1, h2.keep hk⟩)
end JR
namespace Go.Proofs.YtbfanhdofopnnaaGreat
open Go.RowKit PF JR
set_option maxRecDepth 100000 in
set_option maxHeartbeats 4000000 in
theorem begunHolds_c (K : Int) (l : List (Int × Int)) (H : List (List (Int × Int))) (J : Int) (m : List (Int × Int)) (G : List (List (Int × Int)))
    (hl0 : l.length ≤ 9223372036854775807) (hH0 : H.length ≤ 9223372036854775807) (hl1 : ∀ h ∈ H, h.length ≤ 9223372036854775807) (hm0 : m.length ≤ 9223372036854775807) (hG0 : G.length ≤ 9223372036854775807) (hm1 : ∀ h ∈ G, h.length ≤ 9223372036854775807)
    (AT XK KD : Nat) (back : Bool) (hAT : AT ≤ 255) (hKD : KD ≤ 255) (va vha vb vhb : Value) (w : World) (hva : SlP w va l) (hvha : SlH w vha H) (hvb : SlP w vb m) (hvhb : SlH w vhb G) :
    Calls Tryz.prog 9 #[.agg #[.int .i64 K, va, vha], .agg #[.int .i64 J, vb, vhb], .agg #[.int .u8 AT, .bool back, .int .u8 XK], .int .u8 KD] w fun e w' => e = .returned (.bool true) ∧ Below w.heap.size w w' := by
  have st0 := (((Blk.nil w).push rfl #[.int .i64 K, va, vha] 27).push (b := w.heap.size + 1) (by simp) #[.int .i64 J, vb, vhb] 27).push (b := w.heap.size + 1 + 1) (by simp) #[.int .u8 AT, .bool back, .int .u8 XK] 35
  have a0 := hva.below st0.hb
  have ah0 := hvha.below st0.hb
  have b0 := hvb.below st0.hb
  have bh0 := hvhb.below st0.hb
  have c0 := st0.cell 2 rfl 0
  have c1 := st0.cell 2 rfl 1
  have c2 := st0.cell 2 rfl 2
  simp only [List.getElem?_toArray, List.getElem?_cons_zero, List.getElem?_cons_succ] at c0 c1 c2
  clear hva hvha hvb hvhb
  go_enter Tryz.func9, Tryz.ntmps9
  go_wp2_with (go_at_call 11; refine JR.StopM.out ?_)
  refine ⟨?_⟩
  refine (fits7_c K l H hl0 hH0 hl1 va vha _ a0 ah0).mono ?_
  rintro e w1 ⟨rfl, hb⟩
  have st1 := st0.ext hb
  have a1 := a0.below hb
  have ah1 := ah0.below hb
  have b1 := b0.below hb
  have bh1 := bh0.below hb
  clear hb st0 a0 ah0 b0 bh0 c0 c1 c2
  generalize hfit : (decide (l.length ≤ 2147483647) && (decide (H.length ≤ 2147483647) && H.all fun h => decide (h.length ≤ 2147483647))) = fit
  cases fit with
  | false =>
    clear hfit
    go_wp2
    go_ret
    exact ⟨rfl, st1.hb⟩
  | true =>
    simp only [Bool.and_eq_true, decide_eq_true_eq, List.all_eq_true] at hfit
    obtain ⟨l1, l2, l3⟩ := hfit
    have c0 := st1.cell 1 rfl 0
    have c1 := st1.cell 1 rfl 1
    have c2 := st1.cell 1 rfl 2
    simp only [List.getElem?_toArray, List.getElem?_cons_zero, List.getElem?_cons_succ] at c0 c1 c2
    go_wp2_with (go_at_call 11; refine JR.StopM.out ?_)
    refine ⟨?_⟩
    refine (fits7_c J m G hm0 hG0 hm1 vb vhb _ b1 bh1).mono ?_
    rintro e w2 ⟨rfl, hb⟩
    have st2 := st1.ext hb
    have a2 := a1.below hb
    have ah2 := ah1.below hb
    have b2 := b1.below hb
    have bh2 := bh1.below hb
    clear hb st1 a1 ah1 b1 bh1 c0 c1 c2
    generalize hfit : (decide (m.length ≤ 2147483647) && (decide (G.length ≤ 2147483647) && G.all fun h => decide (h.length ≤ 2147483647))) = fit
    cases fit with
    | false =>
      clear hfit
      go_wp2
      go_ret
      exact ⟨rfl, st2.hb⟩
    | true =>
      simp only [Bool.and_eq_true, decide_eq_true_eq, List.all_eq_true] at hfit
      obtain ⟨m1, m2, m3⟩ := hfit
      go_wp2
      refine wp_region_K [] [.val (.pointer (some ⟨w.heap.size + 1 + 1, 0, none⟩)), .val (.int .u8 AT), .val (.pointer (some ⟨w.heap.size + 1 + 1, 1, none⟩)), .val (.bool back), .val (.int .u8 AT), .val (.bool back)]
        [[.ini 6], [.frm 0 29], [.ini 6], [.frm 2 31], [.frm 1 30], [.frm 3 32]]
        mixed (by kernel_rfl) (by kernel_rfl) (allPre_of ⟨trivial, trivial, trivial, trivial, trivial, trivial, trivial⟩)
        ⟨OpOk.quiet rfl ?_, OpOk.quiet rfl ?_, OpOk.quiet rfl ?_, OpOk.quiet rfl ?_, OpOk.quiet rfl ?_, OpOk.quiet rfl ?_, trivial⟩ ?_
      iterate 6
        · intro a u hG hf
          simp [facts, Need.fact, Ent.val, Act.eval] at hf
          have stu := st2.keep hG (fun i x _ => by simp) (fun x hx => by simp at hx)
          have y0 := stu.cell 0 rfl 0
          have y1 := stu.cell 0 rfl 1
          simp only [List.getElem?_toArray, List.getElem?_cons_zero, List.getElem?_cons_succ] at y0 y1
          go_simp
      intro u lw hw w3 hKp hE hI hD
      simp only [allE, Ent.val] at hE
      obtain ⟨u0, u1, u2, u3, u4, u5, -⟩ := hE
      simp only [Nat.reduceAdd] at u0 u1 u2 u3 u4 u5
      simp only [allPut, Act.put, Nat.reduceAdd, u0, u1, u2, u3, u4, u5]
      try simp only [List.setIfInBounds_toArray, List.set_cons_zero, List.set_cons_succ]
      have hb := hKp.below
      have st3 := st2.keep hKp (fun i x _ => by simp) (fun x hx => by simp at hx)
      have a3 := a2.below hb
      have ah3 := ah2.below hb
      have b3 := b2.below hb
      have bh3 := bh2.below hb
      clear hI hD u0 u1 u2 u3 u4 u5 hKp hb st2 a2 ah2 b2 bh2
      have c0 := st3.cell 2 rfl 0
      have c1 := st3.cell 2 rfl 1
      have c2 := st3.cell 2 rfl 2
      simp only [List.getElem?_toArray, List.getElem?_cons_zero, List.getElem?_cons_succ] at c0 c1 c2
      have hiv := isConvexVary_c K l H l1 l3 va vha _ a3 ah3
      clear l2 l3
      go_wp2_with (go_at_call 27; refine JR.StopM.out ?_)
      refine ⟨?_⟩
      refine hiv.mono ?_
      rintro e w4 ⟨ok, rfl, hV, hb⟩
      have st4 := st3.ext hb
      have a4 := a3.below hb
      have ah4 := ah3.below hb
      have b4 := b3.below hb
      have bh4 := bh3.below hb
      clear hb st3 a3 ah3 b3 bh3 c0 c1 c2 hiv
      cases ok with
      | false =>
        clear hV m3
        go_wp2_with (go_at_call 14; refine JR.StopM.out ?_)
        refine ⟨?_⟩
        refine (awake_c _).mono ?_
        rintro e wA ⟨rfl, hbA⟩
        have stA := st4.ext hbA
        go_wp2
        go_ret
        exact ⟨rfl, stA.hb⟩
      | true =>
        obtain ⟨hVa, hcv⟩ := hV rfl
        clear hV
        have c0 := st4.cell 2 rfl 0
        have d0 := st4.cell 1 rfl 0
        have d1 := st4.cell 1 rfl 1
        have d2 := st4.cell 1 rfl 2
        simp only [List.getElem?_toArray, List.getElem?_cons_zero, List.getElem?_cons_succ] at c0 d0 d1 d2
        by_cases hK3 : K = 3
        case neg =>
          clear hVa hcv m3
          have hK3b : (K == 3) = false := beq_eq_false_iff_ne.2 hK3
          go_wp2_with (go_at_call 14; refine JR.StopM.out ?_)
          refine ⟨?_⟩
          refine (awake_c _).mono ?_
          rintro e wA ⟨rfl, hbA⟩
          have stA := st4.ext hbA
          go_wp2
          go_ret
          exact ⟨rfl, stA.hb⟩
        case pos =>
          subst hK3
          have hiv := isVaryS_c J m G m1 m3 vb vhb _ b4 bh4
          have m4 := m1
          have m5 := m3
          clear m1 m2 m3
          go_wp2_with (go_at_call 13; refine JR.StopM.out ?_)
          refine ⟨?_⟩
          refine hiv.mono ?_
          rintro e w5 ⟨ok, rfl, hV, hb⟩
          have st5 := st4.ext hb
          have a5 := a4.below hb
          have ah5 := ah4.below hb
          have b5 := b4.below hb
          have bh5 := bh4.below hb
          clear hb st4 a4 ah4 b4 bh4 c0 d0 d1 d2 hiv
          cases ok with
          | false =>
            clear hV hVa hcv
            go_wp2_with (go_at_call 14; refine JR.StopM.out ?_)
            refine ⟨?_⟩
            refine (awake_c _).mono ?_
            rintro e wA ⟨rfl, hbA⟩
            have stA := st5.ext hbA
            go_wp2
            go_ret
            exact ⟨rfl, stA.hb⟩
          | true =>
            have hVb := hV rfl
            clear hV
            have oka := shOk_of hVa
            have okb := shOk_of hVb
            have hl3 : 3 ≤ l.length ∧ l.length ≤ 12 := by
              rcases oka.2.2.2 with ⟨h, -⟩ | ⟨h, -⟩ | ⟨h, -⟩ | ⟨-, h⟩
              · cases h
              · cases h
              · cases h
              · exact h
            obtain ⟨rfl, hcv1⟩ : H = [] ∧ ppV true l = true := by
              rcases hcv with h | h | ⟨-, h⟩
              · cases h
              · cases h
              · exact h
            obtain ⟨Av, cv, rfl⟩ : ∃ A c, va = .slice A l.length c := a5.len
            obtain ⟨Ah, ch, rfl⟩ : ∃ A c, vha = .slice A 0 c := by obtain ⟨A, c, h, -⟩ := ah5; exact ⟨A, c, h⟩
            obtain ⟨at', hat, hat2⟩ : ∃ a : Nat, AT % l.length = a ∧ a < l.length := ⟨AT % l.length, rfl, Nat.mod_lt _ (by omega)⟩
            have hrem1 : (AT : Int).tmod (l.length : Int) = (at' : Int) := by rw [Int.tmod_eq_emod_of_nonneg (by omega)]; omega
            have okm := shOk_bgn oka at' back
            have hcm := cvOk_bgn hcv hl3.1 at' back
            have hlk := bgn_like l at' back hl3.1
            have hq1 := hdV_like1 hlk J m G
            have hq2 := fun K' m' => hdV_like2 (l := m') hlk (K := K') []
            obtain ⟨ki, hki, hki2⟩ : ∃ ki : Nat, KD % 3 = ki ∧ ki ≤ 2 := ⟨KD % 3, rfl, by omega⟩
            have hrem : (KD : Int).tmod 3 = (ki : Int) := by rw [Int.tmod_eq_emod_of_nonneg (by omega)]; omega
            have wk1 : IntKind.i64.wrap (ki : Int) = (ki : Int) := by
              unfold IntKind.wrap
              simp [IntKind.bits, IntKind.signed]
              omega
            have wk2 : IntKind.i64.wrap (AT : Int) = (AT : Int) := by
              unfold IntKind.wrap
              simp [IntKind.bits, IntKind.signed]
              omega
            have hne0 : ((l.length : Int) == 0) = false := beq_eq_false_iff_ne.2 (by omega)
            have isa := fun u h1 h2 h3 h4 => ask_cv hki2 3 l [] oka hcv J m G okb (.slice Av l.length cv) (.slice Ah 0 ch) vb vhb u h1 h2 h3 h4
            have ism := fun u x h1 h2 h3 h4 => ask_cv hki2 3 _ [] okm hcm J m G okb x (.slice Ah 0 ch) vb vhb u h1 h2 h3 h4
            have isb := fun (hc : CvOk J m G) u h1 h2 h3 h4 => ask_cv hki2 J m G okb hc 3 l [] oka vb vhb (.slice Av l.length cv) (.slice Ah 0 ch) u h1 h2 h3 h4
            have isn := fun (hc : CvOk J m G) u x h1 h2 h3 h4 => ask_cv hki2 J m G okb hc 3 _ [] okm vb vhb x (.slice Ah 0 ch) u h1 h2 h3 h4
            rw [← hq1] at ism
            simp only [← hq2] at isn
            have hvo := fun u hu => varyOf_n l (by omega) (.slice Av l.length cv) u hu
            have hvb := fun u x hx => vBegun_c l at' back (by omega) hat2 x u hx
            have hbl := bgn_len l at' back
            have hvw := fun u x hx => varyWith_c (bgn l at' back) (by omega) 3 (.slice Av l.length cv) x Ah 0 ch u hx
            clear hq1 hq2 hlk oka okb okm hVa hVb hki hat hat2 hcv hcv1 hcm
            generalize hdV 3 l J m G = r1 at *
            generalize hdV J m 3 l [] = r2 at *
            generalize mtV 3 l [] J m G = x1 at *
            generalize mtV 3 (bgn l at' back) [] J m G = x2 at *
            generalize mtV J m G 3 l [] = x3 at *
            generalize mtV J m G 3 (bgn l at' back) [] = x4 at *
            generalize bgn l at' back = L2 at *
            have c0 := st5.cell 2 rfl 0
            have c1 := st5.cell 2 rfl 1
            have c2 := st5.cell 2 rfl 2
            simp only [List.getElem?_toArray, List.getElem?_cons_zero, List.getElem?_cons_succ] at c0 c1 c2
            go_wp2
            refine wp_region_K [] [.val (.agg #[.int .i64 3, .slice Av l.length cv, .slice Ah 0 ch]), .val (.pointer (some ⟨w.heap.size, 1, none⟩)), .val (.slice Av l.length cv), .slr l, .val (.int .u8 AT), .val (.int .i64 AT), .val (.pointer (some ⟨w.heap.size, 1, none⟩)), .val (.slice Av l.length cv), .val (.int .i64 (l.length : Nat)), .val (.int .i64 at'), .val (.bool back), .slr L2, .shwH 3 L2 (.slice Ah 0 ch), .made 27 3, .filledS 11 59 aggU 27]
              [[.ini 4], [.ini 4], [.frm 1 48], [.frm 2 49], [.ini 9], [.frm 4 51], [.ini 4], [.frm 6 53], [.frm 7 54], [.frm 5 52, .frm 8 55], [.ini 10], [.frm 3 50, .frm 9 56, .frm 10 57], [.frm 0 47, .frm 11 58], [], [.frm 13 11, .frm 12 59]]
              mixed (by kernel_rfl) (by kernel_rfl) (allPre_of ⟨trivial, trivial, trivial, trivial, trivial, trivial, trivial, trivial, trivial, trivial, trivial, trivial, trivial, trivial, trivial, trivial⟩)
              ⟨OpOk.quiet rfl ?_, OpOk.quiet rfl ?_, OpOk.quiet rfl ?_, OpOk.call rfl ?_, OpOk.quiet rfl ?_, OpOk.quiet rfl ?_, OpOk.quiet rfl ?_, OpOk.quiet rfl ?_, OpOk.quiet rfl ?_, OpOk.quiet rfl ?_, OpOk.quiet rfl ?_, OpOk.call rfl ?_, OpOk.call rfl ?_, OpOk.made (cs := #[.int .i64 0, .slice none 0 0, .slice none 0 0]) rfl rfl ?_, OpOk.fillS (k := 13) rfl (by kernel_rfl) (by kernel_rfl) rfl (oldLt_of ⟨(fun _ h => (nomatch h)), (fun _ h => (nomatch h)), (fun _ h => (nomatch h)), (fun _ h => (nomatch h)), (fun _ h => (nomatch h)), (fun _ h => (nomatch h)), (fun _ h => (nomatch h)), (fun _ h => (nomatch h)), (fun _ h => (nomatch h)), (fun _ h => (nomatch h)), (fun _ h => (nomatch h)), (fun _ h => (nomatch h)), (fun _ h => (nomatch h)), (fun _ h => (nomatch h)), (fun _ h => (nomatch h)), trivial⟩) ⟨rowB_none rfl rfl, rowB_none rfl rfl, rowB_none rfl rfl, rowB_none rfl rfl, rowB_none rfl rfl, rowB_none rfl rfl, rowB_none rfl rfl, rowB_none rfl rfl, rowB_none rfl rfl, rowB_none rfl rfl, rowB_none rfl rfl, rowB_none rfl rfl, rowB_none rfl rfl, rowB_self (.inr rfl), rowB_self (.inl rfl), trivial⟩ (fun a w hf => hf.1) ?_ (fun _ _ _ h hb => Keep.setRow h (.inl hb)), trivial⟩ ?_
            · intro a u hG hf
              simp [facts, Need.fact, Ent.val, Act.eval] at hf
              have stu := st5.keep hG (fun i x _ => by simp) (fun x hx => by simp at hx)
              have y0 := stu.cell 2 rfl 0
              have y1 := stu.cell 2 rfl 1
              have y2 := stu.cell 2 rfl 2
              simp only [List.getElem?_toArray, List.getElem?_cons_zero, List.getElem?_cons_succ] at y0 y1 y2
              go_simp
            · intro a u _ hf
              simp [facts, Need.fact, Ent.val, Act.eval] at hf
              go_simp
            · intro a u hG hf
              simp [facts, Need.fact, Ent.val, Act.eval] at hf
              have stu := st5.keep hG (fun i x _ => by simp) (fun x hx => by simp at hx)
              have y0 := stu.cell 2 rfl 0
              have y1 := stu.cell 2 rfl 1
              have y2 := stu.cell 2 rfl 2
              simp only [List.getElem?_toArray, List.getElem?_cons_zero, List.getElem?_cons_succ] at y0 y1 y2
              go_simp
            · intro a u hG hf
              simp [facts, Need.fact, Ent.val, Act.eval] at hf
              refine ⟨_, _, by go_simp, (hvo u (a5.below hG.below)).mono ?_⟩
              rintro e w' ⟨v', rfl, hr, hb⟩
              exact ⟨_, rfl, hb, hr⟩
            · intro a u _ hf
              simp [facts, Need.fact, Ent.val, Act.eval] at hf
              go_simp
            · intro a u _ hf
              simp [facts, Need.fact, Ent.val, Act.eval] at hf
              go_simp
            · intro a u _ hf
              simp [facts, Need.fact, Ent.val, Act.eval] at hf
              go_simp
            · intro a u hG hf
              simp [facts, Need.fact, Ent.val, Act.eval] at hf
              have stu := st5.keep hG (fun i x _ => by simp) (fun x hx => by simp at hx)
              have y0 := stu.cell 2 rfl 0
              have y1 := stu.cell 2 rfl 1
              have y2 := stu.cell 2 rfl 2
              simp only [List.getElem?_toArray, List.getElem?_cons_zero, List.getElem?_cons_succ] at y0 y1 y2
              go_simp
            · intro a u _ hf
              simp [facts, Need.fact, Ent.val, Act.eval] at hf
              go_simp
            · intro a u _ hf
              have hln : ¬ l = [] := fun h => by rw [h] at hl3; simp at hl3
              simp [facts, Need.fact, Ent.val, Act.eval] at hf
              go_simp
              try exact hln
            · intro a u _ hf
              simp [facts, Need.fact, Ent.val, Act.eval] at hf
              go_simp
            · intro a u hG hf
              obtain ⟨⟨_, _, f2⟩, ⟨_, _, f3⟩, ⟨_, _, f4⟩, -⟩ := hf
              have f2 : SlR _ _ u (a.eval (.tmp 50)) l := f2
              obtain ⟨A9, c9, f5⟩ := SlR.len f2
              rw [f5] at f2
              have f3 : a.eval (.tmp 56) = .int .i64 at' := f3
              have f4 : a.eval (.tmp 57) = .bool back := f4
              simp [Act.eval] at f3 f4 f5
              refine ⟨_, _, by go_simp, (hvb u _ f2.p).mono ?_⟩
              rintro e w' ⟨v', rfl, hr, hb⟩
              exact ⟨_, rfl, hb, hr⟩
            · intro a u hG hf
              obtain ⟨⟨_, _, f3⟩, ⟨_, _, f2⟩, -⟩ := hf
              have f2 : SlR _ _ u (a.eval (.tmp 58)) L2 := f2
              obtain ⟨A9, c9, f5⟩ := SlR.len f2
              rw [f5] at f2
              have f3 : a.eval (.tmp 47) = .agg #[.int .i64 3, .slice Av l.length cv, .slice Ah 0 ch] := f3
              simp [Act.eval] at f3 f5
              refine ⟨_, _, by go_simp, (hvw u _ f2.p).mono ?_⟩
              rintro e w' ⟨v', rfl, hr, hb⟩
              exact ⟨_, rfl, hb, v', rfl, hr⟩
            · intro a u _ _
              go_simp
            · intro a u b old hG hf hp hb hs
              obtain ⟨-, ⟨_, _, x, f2, f3⟩, -⟩ := hf
              have f2 : a.eval (.tmp 59) = .agg #[.int .i64 3, x, .slice Ah 0 ch] := f2
              obtain ⟨A9, c9, f4⟩ := SlR.len f3
              rw [f2]
              exact ⟨run_store_row _ _ _ rfl b _ hp f2 _ old hb (by kernel_rfl) (by simpa [aggU] using hs) (by rw [f4]; simp [aggU, Value.oneCell']), rfl⟩
            intro u lw hw wc hKp hE hI hD
            simp [allE, Ent.filledS, Ent.shwH, Ent.made, Ent.slr, Ent.val] at hE
            obtain ⟨u0, u1, u2, u3, u4, u5, u6, u7, u8, u9, u10, u11, ⟨x, ex, hrx⟩, ⟨b13, u13, l13, h13, -⟩, u14⟩ := hE
            simp only [allPut, Act.put, u0, u1, u2, u4, u5, u6, u7, u8, u9, u10, u13, ex]
            clear u0 u1 u2 u3 u4 u5 u6 u7 u8 u9 u10 u11
            simp [allPut, Act.put, Act.eval] at u14
            obtain ⟨b14, e14, g14⟩ := u14
            rw [u13] at e14
            obtain rfl : b13 = b14 := by simpa using e14
            replace hrx : SlR (lw 12) (hw 12) wc x L2 := hrx
            obtain ⟨A9, c9, e9⟩ := hrx.len
            rw [ex] at g14
            subst e9
            have g14 : wc.heap[b13]? = some (.cells #[.int .i64 3, .slice A9 L2.length c9, .slice Ah 0 ch] 27 (0, 0)) := g14
            have hb := hKp.below
            have st6 := (st5.keep hKp (fun i x _ => by simp) (fun x hx => by simp at hx)).add g14
            have a6 := a5.below hb
            have ah6 := ah5.below hb
            have b6 := b5.below hb
            have bh6 := bh5.below hb
            have m6 := hrx.p
            try simp only [List.setIfInBounds_toArray, List.set_cons_zero, List.set_cons_succ]
            generalize u 3 = y3 at *
            generalize u 11 = y11 at *
            clear hI hD hKp hb st5 a5 ah5 b5 bh5 ex e14 u13 l13 h13 hrx c0 c1 c2 hvo hvb hvw hbl g14
            have c0 := st6.cell 3 rfl 0
            have c1 := st6.cell 3 rfl 1
            have c2 := st6.cell 3 rfl 2
            simp only [List.getElem?_toArray, List.getElem?_cons_zero, List.getElem?_cons_succ] at c0 c1 c2
            have d0 := st6.cell 2 rfl 0
            have d1 := st6.cell 2 rfl 1
            have d2 := st6.cell 2 rfl 2
            simp only [List.getElem?_toArray, List.getElem?_cons_zero, List.getElem?_cons_succ] at d0 d1 d2
            go_wp2_with (go_at_call 22; refine JR.StopM.out ?_)
            refine ⟨?_⟩
            refine (isa _ a6 ah6 b6 bh6).mono ?_
            rintro e w7 ⟨rfl, hb⟩
            have st7 := st6.ext hb
            have a7 := a6.below hb
            have ah7 := ah6.below hb
            have b7 := b6.below hb
            have bh7 := bh6.below hb
            have m7 := m6.below hb
            clear hb st6 a6 ah6 b6 bh6 m6 c0 c1 c2 d0 d1 d2 isa
            have c0 := st7.cell 0 rfl 0
            have c1 := st7.cell 0 rfl 1
            have c2 := st7.cell 0 rfl 2
            simp only [List.getElem?_toArray, List.getElem?_cons_zero, List.getElem?_cons_succ] at c0 c1 c2
            have d0 := st7.cell 2 rfl 0
            have d1 := st7.cell 2 rfl 1
            have d2 := st7.cell 2 rfl 2
            simp only [List.getElem?_toArray, List.getElem?_cons_zero, List.getElem?_cons_succ] at d0 d1 d2
            go_wp2_with (go_at_call 22; refine JR.StopM.out ?_)
            refine ⟨?_⟩
            refine (ism _ _ m7 ah7 b7 bh7).mono ?_
            rintro e w8 ⟨rfl, hb⟩
            have st8 := st7.ext hb
            have a8 := a7.below hb
            have ah8 := ah7.below hb
            have b8 := b7.below hb
            have bh8 := bh7.below hb
            have m8 := m7.below hb
            clear hb st7 a7 ah7 b7 bh7 m7 c0 c1 c2 d0 d1 d2 ism
            have c0 := st8.cell 2 rfl 0
            have c1 := st8.cell 2 rfl 1
            have c2 := st8.cell 2 rfl 2
            simp only [List.getElem?_toArray, List.getElem?_cons_zero, List.getElem?_cons_succ] at c0 c1 c2
            cases r1 <;>
            · go_wp2_with (go_at_call 27; refine JR.StopM.out ?_)
              refine ⟨?_⟩
              refine (isConvexVary_c J m G m4 m5 vb vhb _ b8 bh8).mono ?_
              rintro e w9 ⟨ok, rfl, hV, hb⟩
              have st9 := st8.ext hb
              have a9 := a8.below hb
              have ah9 := ah8.below hb
              have b9 := b8.below hb
              have bh9 := bh8.below hb
              have m9 := m8.below hb
              clear hb st8 a8 ah8 b8 bh8 m8 c0 c1 c2
              cases ok with
              | false =>
                go_wp2_with (go_at_call 14; refine JR.StopM.out ?_)
                refine ⟨?_⟩
                refine (awake_c _).mono ?_
                rintro e wA ⟨rfl, hbA⟩
                have stA := st9.ext hbA
                go_wp2
                go_ret
                exact ⟨rfl, stA.hb⟩
              | true =>
                obtain ⟨-, hc⟩ := hV rfl
                have isb := isb hc
                have isn := isn hc
                have c0 := st9.cell 2 rfl 0
                have c1 := st9.cell 2 rfl 1
                have c2 := st9.cell 2 rfl 2
                simp only [List.getElem?_toArray, List.getElem?_cons_zero, List.getElem?_cons_succ] at c0 c1 c2
                have d0 := st9.cell 3 rfl 0
                have d1 := st9.cell 3 rfl 1
                have d2 := st9.cell 3 rfl 2
                simp only [List.getElem?_toArray, List.getElem?_cons_zero, List.getElem?_cons_succ] at d0 d1 d2
                go_wp2_with (go_at_call 22; refine JR.StopM.out ?_)
                refine ⟨?_⟩
                refine (isb _ b9 bh9 a9 ah9).mono ?_
                rintro e w10 ⟨rfl, hb⟩
                have st10 := st9.ext hb
                have a10 := a9.below hb
                have ah10 := ah9.below hb
                have b10 := b9.below hb
                have bh10 := bh9.below hb
                have m10 := m9.below hb
                clear hb st9 a9 ah9 b9 bh9 m9 c0 c1 c2 d0 d1 d2 isb
                have c0 := st10.cell 2 rfl 0
                have c1 := st10.cell 2 rfl 1
                have c2 := st10.cell 2 rfl 2
                simp only [List.getElem?_toArray, List.getElem?_cons_zero, List.getElem?_cons_succ] at c0 c1 c2
                have d0 := st10.cell 0 rfl 0
                have d1 := st10.cell 0 rfl 1
                have d2 := st10.cell 0 rfl 2
                simp only [List.getElem?_toArray, List.getElem?_cons_zero, List.getElem?_cons_succ] at d0 d1 d2
                go_wp2_with (go_at_call 22; refine JR.StopM.out ?_)
                refine ⟨?_⟩
                refine (isn _ _ b10 bh10 m10 ah10).mono ?_
                rintro e w11 ⟨rfl, hb⟩
                have st11 := st10.ext hb
                have a11 := a10.below hb
                have ah11 := ah10.below hb
                have b11 := b10.below hb
                have bh11 := bh10.below hb
                have m11 := m10.below hb
                clear hb st10 a10 ah10 b10 bh10 m10 c0 c1 c2 d0 d1 d2 isn
                cases r2 <;>
                · go_wp2_with (go_at_call 14; refine JR.StopM.out ?_)
                  refine ⟨?_⟩
                  refine (awake_c _).mono ?_
                  rintro e wA ⟨rfl, hbA⟩
                  have stA := st11.ext hbA
                  go_wp2
                  go_ret
                  exact ⟨rfl, stA.hb⟩
end Go.Proofs.YtbfanhdofopnnaaGreat
