import Derived.Test.YtbfanhdofopnnaaGreatQY
import Derived.Test.YtbfanhdofopnnaaGreatQX
import Derived.Test.YtbfanhdofopnnaaGreatAwake
import Derived.Test.YtbfanhdofopnnaaGreatQM
set_option linter.unusedSimpArgs false
set_option linter.unusedVariables false
/-! FnBegunMeets: the plain law and the walk (printed by gen/wg.py). -/
namespace JR
open Go Go.RowKit PF
/-- a shape of these holes whose points lie in new blocks -/
def Ent.shw (K : Int) (L : List (Int × Int)) (s : Value) : Ent :=
  .rel (fun v lo hi w => ∃ x, v = .agg #[.int .i64 K, x, s] ∧ SlR lo hi w x L) (fun _ _ _ _ _ hk ⟨x, h1, h2⟩ => ⟨x, h1, h2.keep hk⟩)
def aggOf : Value → Array Value
  | .agg cs => cs
  | _ => #[]
end JR
namespace Go.Proofs.YtbfanhdofopnnaaGreat
open Go.RowKit PF JR
set_option maxRecDepth 100000 in
set_option maxHeartbeats 4000000 in
theorem begunMeets_c (K : Int) (l : List (Int × Int)) (H : List (List (Int × Int))) (J : Int) (m : List (Int × Int)) (G : List (List (Int × Int)))
    (hl0 : l.length ≤ 9223372036854775807) (hH0 : H.length ≤ 9223372036854775807) (hl1 : ∀ h ∈ H, h.length ≤ 9223372036854775807) (hm0 : m.length ≤ 9223372036854775807) (hG0 : G.length ≤ 9223372036854775807) (hm1 : ∀ h ∈ G, h.length ≤ 9223372036854775807)
    (AT XK KD : Nat) (back : Bool) (hAT : AT ≤ 255) (hKD : KD ≤ 255) (va vha vb vhb : Value) (w : World) (hva : SlP w va l) (hvha : SlH w vha H) (hvb : SlP w vb m) (hvhb : SlH w vhb G) :
    Calls Tryz.prog 4 #[.agg #[.int .i64 K, va, vha], .agg #[.int .i64 J, vb, vhb], .agg #[.int .u8 AT, .bool back, .int .u8 XK], .int .u8 KD] w fun e w' => e = .returned (.bool true) ∧ Below w.heap.size w w' := by
  have st0 := (((Blk.nil w).push rfl #[.int .i64 K, va, vha] 27).push (b := w.heap.size + 1) (by simp) #[.int .i64 J, vb, vhb] 27).push (b := w.heap.size + 1 + 1) (by simp) #[.int .u8 AT, .bool back, .int .u8 XK] 35
  have a0 := hva.below st0.hb
  have ah0 := hvha.below st0.hb
  have b0 := hvb.below st0.hb
  have bh0 := hvhb.below st0.hb
  have c0 := st0.cell 2 rfl 0
  have c1 := st0.cell 2 rfl 1
  have c2 := st0.cell 2 rfl 2
  simp only [List.getElem?_toArray, List.getElem?_cons_zero, List.getElem?_cons_succ] at c0 c1 c2
  clear hva hvha hvb hvhb
  go_enter Tryz.func4, Tryz.ntmps4
  go_wp2_with (go_at_call 11; refine JR.StopM.out ?_)
  refine ⟨?_⟩
  refine (fits7_c K l H hl0 hH0 hl1 va vha _ a0 ah0).mono ?_
  rintro e w1 ⟨rfl, hb⟩
  have st1 := st0.ext hb
  have a1 := a0.below hb
  have ah1 := ah0.below hb
  have b1 := b0.below hb
  have bh1 := bh0.below hb
  clear hb st0 a0 ah0 b0 bh0 c0 c1 c2
  generalize hfit : (decide (l.length ≤ 2147483647) && (decide (H.length ≤ 2147483647) && H.all fun h => decide (h.length ≤ 2147483647))) = fit
  cases fit with
  | false =>
    clear hfit
    go_wp2
    go_ret
    exact ⟨rfl, st1.hb⟩
  | true =>
    simp only [Bool.and_eq_true, decide_eq_true_eq, List.all_eq_true] at hfit
    obtain ⟨l1, l2, l3⟩ := hfit
    have c0 := st1.cell 1 rfl 0
    have c1 := st1.cell 1 rfl 1
    have c2 := st1.cell 1 rfl 2
    simp only [List.getElem?_toArray, List.getElem?_cons_zero, List.getElem?_cons_succ] at c0 c1 c2
    go_wp2_with (go_at_call 11; refine JR.StopM.out ?_)
    refine ⟨?_⟩
    refine (fits7_c J m G hm0 hG0 hm1 vb vhb _ b1 bh1).mono ?_
    rintro e w2 ⟨rfl, hb⟩
    have st2 := st1.ext hb
    have a2 := a1.below hb
    have ah2 := ah1.below hb
    have b2 := b1.below hb
    have bh2 := bh1.below hb
    clear hb st1 a1 ah1 b1 bh1 c0 c1 c2
    generalize hfit : (decide (m.length ≤ 2147483647) && (decide (G.length ≤ 2147483647) && G.all fun h => decide (h.length ≤ 2147483647))) = fit
    cases fit with
    | false =>
      clear hfit
      go_wp2
      go_ret
      exact ⟨rfl, st2.hb⟩
    | true =>
      simp only [Bool.and_eq_true, decide_eq_true_eq, List.all_eq_true] at hfit
      obtain ⟨m1, m2, m3⟩ := hfit
      go_wp2
      refine wp_region_K [] [.val (.pointer (some ⟨w.heap.size + 1 + 1, 0, none⟩)), .val (.int .u8 AT), .val (.pointer (some ⟨w.heap.size + 1 + 1, 1, none⟩)), .val (.bool back), .val (.int .u8 AT), .val (.bool back)]
        [[.ini 6], [.frm 0 21], [.ini 6], [.frm 2 23], [.frm 1 22], [.frm 3 24]]
        mixed (by kernel_rfl) (by kernel_rfl) (allPre_of ⟨trivial, trivial, trivial, trivial, trivial, trivial, trivial⟩)
        ⟨OpOk.quiet rfl ?_, OpOk.quiet rfl ?_, OpOk.quiet rfl ?_, OpOk.quiet rfl ?_, OpOk.quiet rfl ?_, OpOk.quiet rfl ?_, trivial⟩ ?_
      iterate 6
        · intro a u hG hf
          simp [facts, Need.fact, Ent.val, Act.eval] at hf
          have stu := st2.keep hG (fun i x _ => by simp) (fun x hx => by simp at hx)
          have y0 := stu.cell 0 rfl 0
          have y1 := stu.cell 0 rfl 1
          simp only [List.getElem?_toArray, List.getElem?_cons_zero, List.getElem?_cons_succ] at y0 y1
          go_simp
      intro u lw hw w3 hKp hE hI hD
      simp only [allE, Ent.val] at hE
      obtain ⟨u0, u1, u2, u3, u4, u5, -⟩ := hE
      simp only [Nat.reduceAdd] at u0 u1 u2 u3 u4 u5
      simp only [allPut, Act.put, Nat.reduceAdd, u0, u1, u2, u3, u4, u5]
      try simp only [List.setIfInBounds_toArray, List.set_cons_zero, List.set_cons_succ]
      have hb := hKp.below
      have st3 := st2.keep hKp (fun i x _ => by simp) (fun x hx => by simp at hx)
      have a3 := a2.below hb
      have ah3 := ah2.below hb
      have b3 := b2.below hb
      have bh3 := bh2.below hb
      clear hI hD u0 u1 u2 u3 u4 u5 hKp hb st2 a2 ah2 b2 bh2
      have c0 := st3.cell 2 rfl 0
      have c1 := st3.cell 2 rfl 1
      have c2 := st3.cell 2 rfl 2
      simp only [List.getElem?_toArray, List.getElem?_cons_zero, List.getElem?_cons_succ] at c0 c1 c2
      have hiv := isVaryS_c K l H l1 l3 va vha _ a3 ah3
      clear l2 l3
      go_wp2_with (go_at_call 13; refine JR.StopM.out ?_)
      refine ⟨?_⟩
      refine hiv.mono ?_
      rintro e w4 ⟨ok, rfl, hV, hb⟩
      have st4 := st3.ext hb
      have a4 := a3.below hb
      have ah4 := ah3.below hb
      have b4 := b3.below hb
      have bh4 := bh3.below hb
      clear hb st3 a3 ah3 b3 bh3 c0 c1 c2 hiv
      cases ok with
      | false =>
        clear hV m3
        go_wp2_with (go_at_call 14; refine JR.StopM.out ?_)
        refine ⟨?_⟩
        refine (awake_c _).mono ?_
        rintro e wA ⟨rfl, hbA⟩
        have stA := st4.ext hbA
        go_wp2
        go_ret
        exact ⟨rfl, stA.hb⟩
      | true =>
        have hVa := hV rfl
        clear hV
        have c0 := st4.cell 2 rfl 0
        have d0 := st4.cell 1 rfl 0
        have d1 := st4.cell 1 rfl 1
        have d2 := st4.cell 1 rfl 2
        simp only [List.getElem?_toArray, List.getElem?_cons_zero, List.getElem?_cons_succ] at c0 d0 d1 d2
        by_cases hK3 : K = 3
        case neg =>
          clear hVa m3
          have hK3b : (K == 3) = false := beq_eq_false_iff_ne.2 hK3
          go_wp2_with (go_at_call 14; refine JR.StopM.out ?_)
          refine ⟨?_⟩
          refine (awake_c _).mono ?_
          rintro e wA ⟨rfl, hbA⟩
          have stA := st4.ext hbA
          go_wp2
          go_ret
          exact ⟨rfl, stA.hb⟩
        case pos =>
          subst hK3
          have hiv := isVaryS_c J m G m1 m3 vb vhb _ b4 bh4
          clear m1 m2 m3
          go_wp2_with (go_at_call 13; refine JR.StopM.out ?_)
          refine ⟨?_⟩
          refine hiv.mono ?_
          rintro e w5 ⟨ok, rfl, hV, hb⟩
          have st5 := st4.ext hb
          have a5 := a4.below hb
          have ah5 := ah4.below hb
          have b5 := b4.below hb
          have bh5 := bh4.below hb
          clear hb st4 a4 ah4 b4 bh4 c0 d0 d1 d2 hiv
          cases ok with
          | false =>
            clear hV hVa
            go_wp2_with (go_at_call 14; refine JR.StopM.out ?_)
            refine ⟨?_⟩
            refine (awake_c _).mono ?_
            rintro e wA ⟨rfl, hbA⟩
            have stA := st5.ext hbA
            go_wp2
            go_ret
            exact ⟨rfl, stA.hb⟩
          | true =>
            have hVb := hV rfl
            clear hV
            have oka := shOk_of hVa
            have okb := shOk_of hVb
            have hl3 : 3 ≤ l.length ∧ l.length ≤ 12 := by
              rcases oka.2.2.2 with ⟨h, -⟩ | ⟨h, -⟩ | ⟨h, -⟩ | ⟨-, h⟩
              · cases h
              · cases h
              · cases h
              · exact h
            obtain ⟨Av, cv, rfl⟩ : ∃ A c, va = .slice A l.length c := a5.len
            obtain ⟨Ah, ch, rfl⟩ : ∃ A c, vha = .slice A H.length c := by obtain ⟨A, c, h, -⟩ := ah5; exact ⟨A, c, h⟩
            obtain ⟨at', hat, hat2⟩ : ∃ a : Nat, AT % l.length = a ∧ a < l.length := ⟨AT % l.length, rfl, Nat.mod_lt _ (by omega)⟩
            have hrem1 : (AT : Int).tmod (l.length : Int) = (at' : Int) := by rw [Int.tmod_eq_emod_of_nonneg (by omega)]; omega
            have okm := shOk_bgn oka at' back
            obtain ⟨hq1, hq2⟩ := mtV_like (H := H) (bgn_like l at' back hl3.1) hl3.1 okb
            obtain ⟨ki, hki, hki2⟩ : ∃ ki : Nat, KD % 3 = ki ∧ ki ≤ 2 := ⟨KD % 3, rfl, by omega⟩
            have hrem : (KD : Int).tmod 3 = (ki : Int) := by rw [Int.tmod_eq_emod_of_nonneg (by omega)]; omega
            have wk1 : IntKind.i64.wrap (ki : Int) = (ki : Int) := by
              unfold IntKind.wrap
              simp [IntKind.bits, IntKind.signed]
              omega
            have wk2 : IntKind.i64.wrap (AT : Int) = (AT : Int) := by
              unfold IntKind.wrap
              simp [IntKind.bits, IntKind.signed]
              omega
            have hne0 : ((l.length : Int) == 0) = false := beq_eq_false_iff_ne.2 (by omega)
            have isa := fun u h1 h2 h3 h4 => isx_c hki2 3 l H oka J m G okb (.slice Av l.length cv) (.slice Ah H.length ch) vb vhb u h1 h2 h3 h4
            have ism := fun u x h1 h2 h3 h4 => isx_c hki2 3 _ H okm J m G okb x (.slice Ah H.length ch) vb vhb u h1 h2 h3 h4
            have isb := fun u h1 h2 h3 h4 => isx_c hki2 J m G okb 3 l H oka vb vhb (.slice Av l.length cv) (.slice Ah H.length ch) u h1 h2 h3 h4
            have isn := fun u x h1 h2 h3 h4 => isx_c hki2 J m G okb 3 _ H okm vb vhb x (.slice Ah H.length ch) u h1 h2 h3 h4
            rw [← hq1] at ism
            rw [← hq2] at isn
            have hvo := fun u hu => varyOf_n l (by omega) (.slice Av l.length cv) u hu
            have hvb := fun u x hx => vBegun_c l at' back (by omega) hat2 x u hx
            have hbl := bgn_len l at' back
            have hvw := fun u x hx => varyWith_c (bgn l at' back) (by omega) 3 (.slice Av l.length cv) x Ah H.length ch u hx
            clear hq1 hq2 oka okb okm hVa hVb hki hat hat2 hl0 hH0 hl1 hm0 hG0 hm1
            obtain ⟨r1, hr1⟩ : ∃ r, mtV 3 l H J m G = r := ⟨_, rfl⟩
            obtain ⟨r2, hr2⟩ : ∃ r, mtV J m G 3 l H = r := ⟨_, rfl⟩
            simp only [hr1] at isa ism
            simp only [hr2] at isb isn
            clear hr1 hr2
            generalize bgn l at' back = L2 at *
            have c0 := st5.cell 2 rfl 0
            have c1 := st5.cell 2 rfl 1
            have c2 := st5.cell 2 rfl 2
            simp only [List.getElem?_toArray, List.getElem?_cons_zero, List.getElem?_cons_succ] at c0 c1 c2
            go_wp2
            refine wp_region_K [] [.val (.agg #[.int .i64 3, .slice Av l.length cv, .slice Ah H.length ch]), .val (.pointer (some ⟨w.heap.size, 1, none⟩)), .val (.slice Av l.length cv), .slr l, .val (.int .u8 AT), .val (.int .i64 AT), .val (.pointer (some ⟨w.heap.size, 1, none⟩)), .val (.slice Av l.length cv), .val (.int .i64 (l.length : Nat)), .val (.int .i64 at'), .val (.bool back), .slr L2, .shw 3 L2 (.slice Ah H.length ch), .made 27 3, .filledS 11 51 aggOf 27]
              [[.ini 4], [.ini 4], [.frm 1 40], [.frm 2 41], [.ini 9], [.frm 4 43], [.ini 4], [.frm 6 45], [.frm 7 46], [.frm 5 44, .frm 8 47], [.ini 10], [.frm 3 42, .frm 9 48, .frm 10 49], [.frm 0 39, .frm 11 50], [], [.frm 13 11, .frm 12 51]]
              mixed (by kernel_rfl) (by kernel_rfl) (allPre_of ⟨trivial, trivial, trivial, trivial, trivial, trivial, trivial, trivial, trivial, trivial, trivial, trivial, trivial, trivial, trivial, trivial⟩)
              ⟨OpOk.quiet rfl ?_, OpOk.quiet rfl ?_, OpOk.quiet rfl ?_, OpOk.call rfl ?_, OpOk.quiet rfl ?_, OpOk.quiet rfl ?_, OpOk.quiet rfl ?_, OpOk.quiet rfl ?_, OpOk.quiet rfl ?_, OpOk.quiet rfl ?_, OpOk.quiet rfl ?_, OpOk.call rfl ?_, OpOk.call rfl ?_, OpOk.made (cs := #[.int .i64 0, .slice none 0 0, .slice none 0 0]) rfl rfl ?_, OpOk.fillS (k := 13) rfl (by kernel_rfl) (by kernel_rfl) rfl (oldLt_of ⟨(fun _ h => (nomatch h)), (fun _ h => (nomatch h)), (fun _ h => (nomatch h)), (fun _ h => (nomatch h)), (fun _ h => (nomatch h)), (fun _ h => (nomatch h)), (fun _ h => (nomatch h)), (fun _ h => (nomatch h)), (fun _ h => (nomatch h)), (fun _ h => (nomatch h)), (fun _ h => (nomatch h)), (fun _ h => (nomatch h)), (fun _ h => (nomatch h)), (fun _ h => (nomatch h)), (fun _ h => (nomatch h)), trivial⟩) ⟨rowB_none rfl rfl, rowB_none rfl rfl, rowB_none rfl rfl, rowB_none rfl rfl, rowB_none rfl rfl, rowB_none rfl rfl, rowB_none rfl rfl, rowB_none rfl rfl, rowB_none rfl rfl, rowB_none rfl rfl, rowB_none rfl rfl, rowB_none rfl rfl, rowB_none rfl rfl, rowB_self (.inr rfl), rowB_self (.inl rfl), trivial⟩ (fun a w hf => hf.1) ?_ (fun _ _ _ h hb => Keep.setRow h (.inl hb)), trivial⟩ ?_
            · intro a u hG hf
              simp [facts, Need.fact, Ent.val, Act.eval] at hf
              have stu := st5.keep hG (fun i x _ => by simp) (fun x hx => by simp at hx)
              have y0 := stu.cell 2 rfl 0
              have y1 := stu.cell 2 rfl 1
              have y2 := stu.cell 2 rfl 2
              simp only [List.getElem?_toArray, List.getElem?_cons_zero, List.getElem?_cons_succ] at y0 y1 y2
              go_simp
            · intro a u _ hf
              simp [facts, Need.fact, Ent.val, Act.eval] at hf
              go_simp
            · intro a u hG hf
              simp [facts, Need.fact, Ent.val, Act.eval] at hf
              have stu := st5.keep hG (fun i x _ => by simp) (fun x hx => by simp at hx)
              have y0 := stu.cell 2 rfl 0
              have y1 := stu.cell 2 rfl 1
              have y2 := stu.cell 2 rfl 2
              simp only [List.getElem?_toArray, List.getElem?_cons_zero, List.getElem?_cons_succ] at y0 y1 y2
              go_simp
            · intro a u hG hf
              simp [facts, Need.fact, Ent.val, Act.eval] at hf
              refine ⟨_, _, by go_simp, (hvo u (a5.below hG.below)).mono ?_⟩
              rintro e w' ⟨v', rfl, hr, hb⟩
              exact ⟨_, rfl, hb, hr⟩
            · intro a u _ hf
              simp [facts, Need.fact, Ent.val, Act.eval] at hf
              go_simp
            · intro a u _ hf
              simp [facts, Need.fact, Ent.val, Act.eval] at hf
              go_simp
            · intro a u _ hf
              simp [facts, Need.fact, Ent.val, Act.eval] at hf
              go_simp
            · intro a u hG hf
              simp [facts, Need.fact, Ent.val, Act.eval] at hf
              have stu := st5.keep hG (fun i x _ => by simp) (fun x hx => by simp at hx)
              have y0 := stu.cell 2 rfl 0
              have y1 := stu.cell 2 rfl 1
              have y2 := stu.cell 2 rfl 2
              simp only [List.getElem?_toArray, List.getElem?_cons_zero, List.getElem?_cons_succ] at y0 y1 y2
              go_simp
            · intro a u _ hf
              simp [facts, Need.fact, Ent.val, Act.eval] at hf
              go_simp
            · intro a u _ hf
              have hln : ¬ l = [] := fun h => by rw [h] at hl3; simp at hl3
              simp [facts, Need.fact, Ent.val, Act.eval] at hf
              go_simp
              try exact hln
            · intro a u _ hf
              simp [facts, Need.fact, Ent.val, Act.eval] at hf
              go_simp
            · intro a u hG hf
              obtain ⟨⟨_, _, f2⟩, ⟨_, _, f3⟩, ⟨_, _, f4⟩, -⟩ := hf
              have f2 : SlR _ _ u (a.eval (.tmp 42)) l := f2
              obtain ⟨A9, c9, f5⟩ := SlR.len f2
              rw [f5] at f2
              have f3 : a.eval (.tmp 48) = .int .i64 at' := f3
              have f4 : a.eval (.tmp 49) = .bool back := f4
              simp [Act.eval] at f3 f4 f5
              refine ⟨_, _, by go_simp, (hvb u _ f2.p).mono ?_⟩
              rintro e w' ⟨v', rfl, hr, hb⟩
              exact ⟨_, rfl, hb, hr⟩
            · intro a u hG hf
              obtain ⟨⟨_, _, f3⟩, ⟨_, _, f2⟩, -⟩ := hf
              have f2 : SlR _ _ u (a.eval (.tmp 50)) L2 := f2
              obtain ⟨A9, c9, f5⟩ := SlR.len f2
              rw [f5] at f2
              have f3 : a.eval (.tmp 39) = .agg #[.int .i64 3, .slice Av l.length cv, .slice Ah H.length ch] := f3
              simp [Act.eval] at f3 f5
              refine ⟨_, _, by go_simp, (hvw u _ f2.p).mono ?_⟩
              rintro e w' ⟨v', rfl, hr, hb⟩
              exact ⟨_, rfl, hb, v', rfl, hr⟩
            · intro a u _ _
              go_simp
            · intro a u b old hG hf hp hb hs
              obtain ⟨-, ⟨_, _, x, f2, f3⟩, -⟩ := hf
              have f2 : a.eval (.tmp 51) = .agg #[.int .i64 3, x, .slice Ah H.length ch] := f2
              obtain ⟨A9, c9, f4⟩ := SlR.len f3
              rw [f2]
              exact ⟨run_store_row _ _ _ rfl b _ hp f2 _ old hb (by kernel_rfl) (by simpa [aggOf] using hs) (by rw [f4]; simp [aggOf, Value.oneCell']), rfl⟩
            intro u lw hw wc hKp hE hI hD
            simp [allE, Ent.filledS, Ent.shw, Ent.made, Ent.slr, Ent.val] at hE
            obtain ⟨u0, u1, u2, u3, u4, u5, u6, u7, u8, u9, u10, u11, ⟨x, ex, hrx⟩, ⟨b13, u13, l13, h13, -⟩, u14⟩ := hE
            simp only [allPut, Act.put, u0, u1, u2, u4, u5, u6, u7, u8, u9, u10, u13, ex]
            clear u0 u1 u2 u3 u4 u5 u6 u7 u8 u9 u10 u11
            simp [allPut, Act.put, Act.eval] at u14
            obtain ⟨b14, e14, g14⟩ := u14
            rw [u13] at e14
            obtain rfl : b13 = b14 := by simpa using e14
            replace hrx : SlR (lw 12) (hw 12) wc x L2 := hrx
            obtain ⟨A9, c9, e9⟩ := hrx.len
            rw [ex] at g14
            subst e9
            have g14 : wc.heap[b13]? = some (.cells #[.int .i64 3, .slice A9 L2.length c9, .slice Ah H.length ch] 27 (0, 0)) := g14
            have hb := hKp.below
            have st6 := (st5.keep hKp (fun i x _ => by simp) (fun x hx => by simp at hx)).add g14
            have a6 := a5.below hb
            have ah6 := ah5.below hb
            have b6 := b5.below hb
            have bh6 := bh5.below hb
            have m6 := hrx.p
            try simp only [List.setIfInBounds_toArray, List.set_cons_zero, List.set_cons_succ]
            generalize u 3 = y3 at *
            generalize u 11 = y11 at *
            clear hI hD hKp hb st5 a5 ah5 b5 bh5 ex e14 u13 l13 h13 hrx c0 c1 c2 hvo hvb hvw hbl g14
            go_wp2
            refine wp_region_K [] [.val (.agg #[.int .i64 3, .slice Av l.length cv, .slice Ah H.length ch]), .val (.agg #[.int .i64 J, vb, vhb]), .val (.int .i64 ki), .val (.bool r1), .val (.agg #[.int .i64 3, .slice A9 L2.length c9, .slice Ah H.length ch]), .val (.agg #[.int .i64 J, vb, vhb]), .val (.int .i64 ki), .val (.bool r1), .val (.bool true), .val (.bool true), .val (.agg #[.int .i64 J, vb, vhb]), .val (.agg #[.int .i64 3, .slice Av l.length cv, .slice Ah H.length ch]), .val (.int .i64 ki), .val (.bool r2), .val (.agg #[.int .i64 J, vb, vhb]), .val (.agg #[.int .i64 3, .slice A9 L2.length c9, .slice Ah H.length ch]), .val (.int .i64 ki), .val (.bool r2), .val (.bool true), .val (.bool true), .val (.bool true), .val (.bool true), .val (.bool true), .val (.bool true)]
              [[.ini 4], [.ini 5], [.ini 12], [.frm 0 55, .frm 1 56, .frm 2 57], [.ini 11], [.ini 5], [.ini 12], [.frm 4 59, .frm 5 60, .frm 6 61], [.frm 3 58, .frm 7 62], [.frm 8 63], [.frm 9 64, .ini 5], [.frm 9 64, .ini 4], [.frm 9 64, .ini 12], [.frm 9 64, .frm 10 65, .frm 11 66, .frm 12 67], [.frm 9 64, .ini 5], [.frm 9 64, .ini 11], [.frm 9 64, .ini 12], [.frm 9 64, .frm 14 69, .frm 15 70, .frm 16 71], [.frm 9 64, .frm 13 68, .frm 17 72], [.frm 9 64, .frm 18 73], [.frm 19 74], [.frm 20 75], [.frm 20 75, .frm 21 76], [.frm 22 77]]
              mixed (by kernel_rfl) (by kernel_rfl) (allPre_of ⟨trivial, trivial, trivial, trivial, trivial, trivial, trivial, trivial, trivial, trivial, trivial, trivial, trivial, trivial, trivial, trivial, trivial, trivial, trivial, trivial, trivial, trivial, trivial, trivial, trivial⟩)
              ⟨OpOk.quiet rfl ?_, OpOk.quiet rfl ?_, OpOk.quiet rfl ?_, OpOk.call rfl ?_, OpOk.quiet rfl ?_, OpOk.quiet rfl ?_, OpOk.quiet rfl ?_, OpOk.call rfl ?_, OpOk.quiet rfl ?_, OpOk.quiet rfl ?_, OpOk.quietG rfl (by kernel_rfl) (fun a w hf => by obtain ⟨h1, -⟩ := hf; exact h1.elim fun _ h => h.elim fun _ h => h) ?_, OpOk.quietG rfl (by kernel_rfl) (fun a w hf => by obtain ⟨h1, -⟩ := hf; exact h1.elim fun _ h => h.elim fun _ h => h) ?_, OpOk.quietG rfl (by kernel_rfl) (fun a w hf => by obtain ⟨h1, -⟩ := hf; exact h1.elim fun _ h => h.elim fun _ h => h) ?_, OpOk.callG rfl (by kernel_rfl) (fun a w hf => by obtain ⟨h1, -⟩ := hf; exact h1.elim fun _ h => h.elim fun _ h => h) ?_, OpOk.quietG rfl (by kernel_rfl) (fun a w hf => by obtain ⟨h1, -⟩ := hf; exact h1.elim fun _ h => h.elim fun _ h => h) ?_, OpOk.quietG rfl (by kernel_rfl) (fun a w hf => by obtain ⟨h1, -⟩ := hf; exact h1.elim fun _ h => h.elim fun _ h => h) ?_, OpOk.quietG rfl (by kernel_rfl) (fun a w hf => by obtain ⟨h1, -⟩ := hf; exact h1.elim fun _ h => h.elim fun _ h => h) ?_, OpOk.callG rfl (by kernel_rfl) (fun a w hf => by obtain ⟨h1, -⟩ := hf; exact h1.elim fun _ h => h.elim fun _ h => h) ?_, OpOk.quietG rfl (by kernel_rfl) (fun a w hf => by obtain ⟨h1, -⟩ := hf; exact h1.elim fun _ h => h.elim fun _ h => h) ?_, OpOk.quiet rfl ?_, OpOk.quiet rfl ?_, OpOk.callG rfl (by kernel_rfl) (fun a w hf => by obtain ⟨h1, -⟩ := hf; exact h1.elim fun _ h => h.elim fun _ h => h) ?_, OpOk.quiet rfl ?_, OpOk.quiet rfl ?_, trivial⟩ ?_
            · intro a u hG hf
              simp [facts, Need.fact, Ent.val, Act.eval] at hf
              have stu := st6.keep hG (fun i x _ => by simp) (fun x hx => by simp at hx)
              have y0 := stu.cell 3 rfl 0
              have y1 := stu.cell 3 rfl 1
              have y2 := stu.cell 3 rfl 2
              simp only [List.getElem?_toArray, List.getElem?_cons_zero, List.getElem?_cons_succ] at y0 y1 y2
              go_simp
            · intro a u hG hf
              simp [facts, Need.fact, Ent.val, Act.eval] at hf
              have stu := st6.keep hG (fun i x _ => by simp) (fun x hx => by simp at hx)
              have y0 := stu.cell 2 rfl 0
              have y1 := stu.cell 2 rfl 1
              have y2 := stu.cell 2 rfl 2
              simp only [List.getElem?_toArray, List.getElem?_cons_zero, List.getElem?_cons_succ] at y0 y1 y2
              go_simp
            · intro a u _ hf
              simp [facts, Need.fact, Ent.val, Act.eval] at hf
              go_simp
            · intro a u hG hf
              simp [facts, Need.fact, Ent.val, Act.eval] at hf
              have hb5 := hG.below
              refine ⟨_, _, by go_simp, (isa u (a6.below hb5) (ah6.below hb5) (b6.below hb5) (bh6.below hb5)).mono ?_⟩
              rintro e w' ⟨rfl, hb⟩
              exact ⟨_, rfl, hb, rfl⟩
            · intro a u hG hf
              simp [facts, Need.fact, Ent.val, Act.eval] at hf
              have stu := st6.keep hG (fun i x _ => by simp) (fun x hx => by simp at hx)
              have y0 := stu.cell 0 rfl 0
              have y1 := stu.cell 0 rfl 1
              have y2 := stu.cell 0 rfl 2
              simp only [List.getElem?_toArray, List.getElem?_cons_zero, List.getElem?_cons_succ] at y0 y1 y2
              go_simp
            · intro a u hG hf
              simp [facts, Need.fact, Ent.val, Act.eval] at hf
              have stu := st6.keep hG (fun i x _ => by simp) (fun x hx => by simp at hx)
              have y0 := stu.cell 2 rfl 0
              have y1 := stu.cell 2 rfl 1
              have y2 := stu.cell 2 rfl 2
              simp only [List.getElem?_toArray, List.getElem?_cons_zero, List.getElem?_cons_succ] at y0 y1 y2
              go_simp
            · intro a u _ hf
              simp [facts, Need.fact, Ent.val, Act.eval] at hf
              go_simp
            · intro a u hG hf
              simp [facts, Need.fact, Ent.val, Act.eval] at hf
              have hb5 := hG.below
              refine ⟨_, _, by go_simp, (ism u _ (m6.below hb5) (ah6.below hb5) (b6.below hb5) (bh6.below hb5)).mono ?_⟩
              rintro e w' ⟨rfl, hb⟩
              exact ⟨_, rfl, hb, rfl⟩
            · intro a u _ hf
              simp [facts, Need.fact, Ent.val, Act.eval] at hf
              cases r1 <;> go_simp
            · intro a u _ hf
              simp [facts, Need.fact, Ent.val, Act.eval] at hf
              go_simp
            · intro a u hG hf
              simp [facts, Need.fact, Ent.val, Act.eval] at hf
              have stu := st6.keep hG (fun i x _ => by simp) (fun x hx => by simp at hx)
              have y0 := stu.cell 2 rfl 0
              have y1 := stu.cell 2 rfl 1
              have y2 := stu.cell 2 rfl 2
              simp only [List.getElem?_toArray, List.getElem?_cons_zero, List.getElem?_cons_succ] at y0 y1 y2
              go_simp
            · intro a u hG hf
              simp [facts, Need.fact, Ent.val, Act.eval] at hf
              have stu := st6.keep hG (fun i x _ => by simp) (fun x hx => by simp at hx)
              have y0 := stu.cell 3 rfl 0
              have y1 := stu.cell 3 rfl 1
              have y2 := stu.cell 3 rfl 2
              simp only [List.getElem?_toArray, List.getElem?_cons_zero, List.getElem?_cons_succ] at y0 y1 y2
              go_simp
            · intro a u _ hf
              simp [facts, Need.fact, Ent.val, Act.eval] at hf
              go_simp
            · intro a u hG hf
              simp [facts, Need.fact, Ent.val, Act.eval] at hf
              have hb5 := hG.below
              refine ⟨_, _, by go_simp, (isb u (b6.below hb5) (bh6.below hb5) (a6.below hb5) (ah6.below hb5)).mono ?_⟩
              rintro e w' ⟨rfl, hb⟩
              exact ⟨_, rfl, hb, rfl⟩
            · intro a u hG hf
              simp [facts, Need.fact, Ent.val, Act.eval] at hf
              have stu := st6.keep hG (fun i x _ => by simp) (fun x hx => by simp at hx)
              have y0 := stu.cell 2 rfl 0
              have y1 := stu.cell 2 rfl 1
              have y2 := stu.cell 2 rfl 2
              simp only [List.getElem?_toArray, List.getElem?_cons_zero, List.getElem?_cons_succ] at y0 y1 y2
              go_simp
            · intro a u hG hf
              simp [facts, Need.fact, Ent.val, Act.eval] at hf
              have stu := st6.keep hG (fun i x _ => by simp) (fun x hx => by simp at hx)
              have y0 := stu.cell 0 rfl 0
              have y1 := stu.cell 0 rfl 1
              have y2 := stu.cell 0 rfl 2
              simp only [List.getElem?_toArray, List.getElem?_cons_zero, List.getElem?_cons_succ] at y0 y1 y2
              go_simp
            · intro a u _ hf
              simp [facts, Need.fact, Ent.val, Act.eval] at hf
              go_simp
            · intro a u hG hf
              simp [facts, Need.fact, Ent.val, Act.eval] at hf
              have hb5 := hG.below
              refine ⟨_, _, by go_simp, (isn u _ (b6.below hb5) (bh6.below hb5) (m6.below hb5) (ah6.below hb5)).mono ?_⟩
              rintro e w' ⟨rfl, hb⟩
              exact ⟨_, rfl, hb, rfl⟩
            · intro a u _ hf
              simp [facts, Need.fact, Ent.val, Act.eval] at hf
              cases r2 <;> go_simp
            · intro a u _ hf
              simp [facts, Need.fact, Ent.val, Act.eval] at hf
              go_simp
            · intro a u _ hf
              simp [facts, Need.fact, Ent.val, Act.eval] at hf
              go_simp
            · intro a u hG hf
              simp [facts, Need.fact, Ent.val, Act.eval] at hf
              have hb5 := hG.below
              refine ⟨_, _, by go_simp, (awake_c u).mono ?_⟩
              rintro e w' ⟨rfl, hb⟩
              exact ⟨_, rfl, hb, rfl⟩
            · intro a u _ hf
              simp [facts, Need.fact, Ent.val, Act.eval] at hf
              go_simp
            · intro a u _ hf
              simp [facts, Need.fact, Ent.val, Act.eval] at hf
              go_simp
            intro u lw hw wd hKp hE hI hD
            simp only [allE, Ent.val] at hE
            obtain ⟨u0, u1, u2, u3, u4, u5, u6, u7, u8, u9, u10, u11, u12, u13, u14, u15, u16, u17, u18, u19, u20, u21, u22, u23, -⟩ := hE
            simp only [Nat.reduceAdd] at u0 u1 u2 u3 u4 u5 u6 u7 u8 u9 u10 u11 u12 u13 u14 u15 u16 u17 u18 u19 u20 u21 u22 u23
            simp only [allPut, Act.put, Nat.reduceAdd, u0, u1, u2, u3, u4, u5, u6, u7, u8, u9, u10, u11, u12, u13, u14, u15, u16, u17, u18, u19, u20, u21, u22, u23]
            try simp only [List.setIfInBounds_toArray, List.set_cons_zero, List.set_cons_succ]
            clear hI hD isa ism isb isn u0 u1 u2 u3 u4 u5 u6 u7 u8 u9 u10 u11 u12 u13 u14 u15 u16 u17 u18 u19 u20 u21 u22 u23
            have st8 := st6.keep hKp (fun i x _ => by simp) (fun x hx => by simp at hx)
            clear hKp st6 a6 ah6 b6 bh6 m6
            go_wp2
            go_ret
            exact ⟨rfl, st8.hb⟩
end Go.Proofs.YtbfanhdofopnnaaGreat
