import Derived.Test.YtbfanhdofopnnaaGreatQY
import Derived.Test.YtbfanhdofopnnaaGreatQH
import Derived.Test.YtbfanhdofopnnaaGreatQX
import Derived.Test.YtbfanhdofopnnaaGreatAwake
import Derived.Test.YtbfanhdofopnnaaGreatQM
set_option linter.unusedSimpArgs false
set_option linter.unusedVariables false
/-! FnHolesAlike: the walk (printed by gen/wj.py). -/
namespace Go.Proofs.YtbfanhdofopnnaaGreat
open Go.RowKit PF JR
theorem _root_.PF.SlP.oneJ {w u : World} {L : List (Nat × Array Value × TypeId)} (h : Blk w u L) (i : Nat) {b : Nat} {T : TypeId} {p : Int × Int} (hi : L[i]? = some (b, #[.int .i64 p.1, .int .i64 p.2], T)) : SlP u (.slice (some ⟨b, 0, none⟩) 1 1) [p] := by
  have c0 := h.cell i hi 0
  have c1 := h.cell i hi 1
  simp only [List.getElem?_toArray, List.getElem?_cons_zero, List.getElem?_cons_succ] at c0 c1
  refine ⟨_, 1, rfl, fun k q hq => ?_⟩
  rcases k with _ | k
  · simp at hq
    subst hq
    exact ⟨_, 0, rfl, by simpa using c0, by simpa using c1⟩
  · simp at hq
theorem slH_none {w : World} : SlH w (.slice none 0 0) [] := ⟨none, 0, rfl, fun k p hp => by simp at hp⟩
theorem ask_hole {X : Nat} (hX : X ≤ 2) {l : List (Int × Int)} {H : List (List (Int × Int))} (h : ShOk 3 l H) {p : Int × Int} (hp : Bn3 p) (v vh vp vq : Value) (w : World) (hv : SlP w v l) (hh : SlH w vh H) (hvp : SlP w vp [p]) (hvq : SlH w vq []) :
    Calls Tryz.prog 22 #[.agg #[.int .i64 3, v, vh], .agg #[.int .i64 0, vp, vq], .int .i64 X, .int .i64 2] w fun e w' => e = .returned (.tuple #[.bool (polHas l H p), .bool (polHas l H p)]) ∧ Below w.heap.size w w' := by
  obtain ⟨h1, h2, h3, hk⟩ := h
  have hl : 3 ≤ l.length ∧ l.length ≤ 12 := by
    rcases hk with ⟨h, -⟩ | ⟨h, -⟩ | ⟨h, -⟩ | ⟨-, h⟩
    · cases h
    · cases h
    · cases h
    · exact h
  have okl : okRn l := ⟨hl.1, hl.2, h1⟩
  refine askPtH_c X hX l H okl.k (fun x hx => (h3 x hx).k) (by omega) p hp.b (fun x hx k _ => ?_) v vh vp vq w hv hh hvp hvq
  refine ray_q3 (fun q hq => ?_) hp k
  rcases hx with rfl | hx
  · exact h1 q hq
  · exact (h3 x hx).2.2 q hq
set_option maxRecDepth 100000 in
set_option maxHeartbeats 40000000 in
theorem holesAlike_c (K : Int) (l : List (Int × Int)) (H : List (List (Int × Int))) (J : Int) (m : List (Int × Int)) (G : List (List (Int × Int))) (p : Int × Int)
    (hl0 : l.length ≤ 9223372036854775807) (hH0 : H.length ≤ 9223372036854775807) (hl1 : ∀ h ∈ H, h.length ≤ 9223372036854775807) (hm0 : m.length ≤ 9223372036854775807) (hG0 : G.length ≤ 9223372036854775807) (hm1 : ∀ h ∈ G, h.length ≤ 9223372036854775807)
    (AT XK : Nat) (back : Bool) (hAT : AT ≤ 255) (hXK : XK ≤ 255) (va vha vb vhb : Value) (w : World) (hva : SlP w va l) (hvha : SlH w vha H) (hvb : SlP w vb m) (hvhb : SlH w vhb G) :
    Calls Tryz.prog 5 #[.agg #[.int .i64 K, va, vha], .agg #[.int .i64 J, vb, vhb], .agg #[.int .i64 p.1, .int .i64 p.2], .agg #[.int .u8 AT, .bool back, .int .u8 XK]] w fun e w' => e = .returned (.bool true) ∧ Below w.heap.size w w' := by
  have st0 := ((((Blk.nil w).push rfl #[.int .i64 K, va, vha] 27).push (b := w.heap.size + 1) (by simp) #[.int .i64 J, vb, vhb] 27).push (b := w.heap.size + 1 + 1) (by simp) #[.int .i64 p.1, .int .i64 p.2] 42).push (b := w.heap.size + 1 + 1 + 1) (by simp) #[.int .u8 AT, .bool back, .int .u8 XK] 35
  have a0 := hva.below st0.hb
  have ah0 := hvha.below st0.hb
  have b0 := hvb.below st0.hb
  have bh0 := hvhb.below st0.hb
  have c0 := st0.cell 3 rfl 0
  have c1 := st0.cell 3 rfl 1
  have c2 := st0.cell 3 rfl 2
  simp only [List.getElem?_toArray, List.getElem?_cons_zero, List.getElem?_cons_succ] at c0 c1 c2
  go_enter Tryz.func5, Tryz.ntmps5
  go_wp2_with (go_at_call 11; refine JR.StopM.out ?_)
  refine ⟨?_⟩
  refine (fits7_c K l H hl0 hH0 hl1 va vha _ a0 ah0).mono ?_
  rintro e w1 ⟨rfl, hb⟩
  have st1 := st0.ext hb
  have a1 := a0.below hb
  have ah1 := ah0.below hb
  have b1 := b0.below hb
  have bh1 := bh0.below hb
  clear hb st0 a0 ah0 b0 bh0 c0 c1 c2
  generalize hfit : (decide (l.length ≤ 2147483647) && (decide (H.length ≤ 2147483647) && H.all fun h => decide (h.length ≤ 2147483647))) = fit
  cases fit with
  | false =>
    clear hfit
    go_wp2
    go_ret
    exact ⟨rfl, st1.hb⟩
  | true =>
    simp only [Bool.and_eq_true, decide_eq_true_eq, List.all_eq_true] at hfit
    obtain ⟨l1, l2, l3⟩ := hfit
    have c0 := st1.cell 2 rfl 0
    have c1 := st1.cell 2 rfl 1
    have c2 := st1.cell 2 rfl 2
    simp only [List.getElem?_toArray, List.getElem?_cons_zero, List.getElem?_cons_succ] at c0 c1 c2
    go_wp2_with (go_at_call 11; refine JR.StopM.out ?_)
    refine ⟨?_⟩
    refine (fits7_c J m G hm0 hG0 hm1 vb vhb _ b1 bh1).mono ?_
    rintro e w2 ⟨rfl, hb⟩
    have st2 := st1.ext hb
    have a2 := a1.below hb
    have ah2 := ah1.below hb
    have b2 := b1.below hb
    have bh2 := bh1.below hb
    clear hb st1 a1 ah1 b1 bh1 c0 c1 c2
    generalize hfit : (decide (m.length ≤ 2147483647) && (decide (G.length ≤ 2147483647) && G.all fun h => decide (h.length ≤ 2147483647))) = fit
    cases fit with
    | false =>
      clear hfit
      go_wp2
      go_ret
      exact ⟨rfl, st2.hb⟩
    | true =>
      simp only [Bool.and_eq_true, decide_eq_true_eq, List.all_eq_true] at hfit
      obtain ⟨m1, m2, m3⟩ := hfit
      go_wp2
      refine wp_region_K [] [.val (.pointer (some ⟨w.heap.size + 1 + 1 + 1, 0, none⟩)), .val (.int .u8 AT), .val (.pointer (some ⟨w.heap.size + 1 + 1 + 1, 2, none⟩)), .val (.int .u8 XK), .val (.int .u8 AT), .val (.int .u8 XK)]
        [[.ini 7], [.frm 0 28], [.ini 7], [.frm 2 30], [.frm 1 29], [.frm 3 31]]
        mixed (by kernel_rfl) (by kernel_rfl) (allPre_of ⟨trivial, trivial, trivial, trivial, trivial, trivial, trivial⟩)
        ⟨OpOk.quiet rfl ?_, OpOk.quiet rfl ?_, OpOk.quiet rfl ?_, OpOk.quiet rfl ?_, OpOk.quiet rfl ?_, OpOk.quiet rfl ?_, trivial⟩ ?_
      iterate 6
        · intro a u hG hf
          simp [facts, Need.fact, Ent.val, Act.eval] at hf
          have stu := st2.keep hG (fun i x _ => by simp) (fun x hx => by simp at hx)
          have y0 := stu.cell 0 rfl 0
          have y2 := stu.cell 0 rfl 2
          simp only [List.getElem?_toArray, List.getElem?_cons_zero, List.getElem?_cons_succ] at y0 y2
          go_simp
      intro u lw hw w3 hKp hE hI hD
      simp only [allE, Ent.val] at hE
      obtain ⟨u0, u1, u2, u3, u4, u5, -⟩ := hE
      simp only [Nat.reduceAdd] at u0 u1 u2 u3 u4 u5
      simp only [allPut, Act.put, Nat.reduceAdd, u0, u1, u2, u3, u4, u5]
      try simp only [List.setIfInBounds_toArray, List.set_cons_zero, List.set_cons_succ]
      have hb := hKp.below
      have st3 := st2.keep hKp (fun i x _ => by simp) (fun x hx => by simp at hx)
      have a3 := a2.below hb
      have ah3 := ah2.below hb
      have b3 := b2.below hb
      have bh3 := bh2.below hb
      clear hI hD u0 u1 u2 u3 u4 u5 hKp hb st2 a2 ah2 b2 bh2
      have c0 := st3.cell 3 rfl 0
      have c1 := st3.cell 3 rfl 1
      have c2 := st3.cell 3 rfl 2
      simp only [List.getElem?_toArray, List.getElem?_cons_zero, List.getElem?_cons_succ] at c0 c1 c2
      have hiv := isVaryS_c K l H l1 l3 va vha _ a3 ah3
      clear l2 l3
      go_wp2_with (go_at_call 13; refine JR.StopM.out ?_)
      refine ⟨?_⟩
      refine hiv.mono ?_
      rintro e w4 ⟨ok, rfl, hV, hb⟩
      have st4 := st3.ext hb
      have a4 := a3.below hb
      have ah4 := ah3.below hb
      have b4 := b3.below hb
      have bh4 := bh3.below hb
      clear hb st3 a3 ah3 b3 bh3 c0 c1 c2 hiv
      cases ok with
      | false =>
        clear hV m3
        go_wp2_with (go_at_call 14; refine JR.StopM.out ?_)
        refine ⟨?_⟩
        refine (awake_c _).mono ?_
        rintro e wA ⟨rfl, hbA⟩
        have stA := st4.ext hbA
        go_wp2
        go_ret
        exact ⟨rfl, stA.hb⟩
      | true =>
        have hVa := hV rfl
        clear hV
        obtain ⟨Ah, ch, rfl⟩ : ∃ A c, vha = .slice A H.length c := by obtain ⟨A, c, h, -⟩ := ah4; exact ⟨A, c, h⟩
        have c0 := st4.cell 2 rfl 0
        have c1 := st4.cell 2 rfl 1
        have c2 := st4.cell 2 rfl 2
        simp only [List.getElem?_toArray, List.getElem?_cons_zero, List.getElem?_cons_succ] at c0 c1 c2
        have d0 := st4.cell 3 rfl 0
        have d1 := st4.cell 3 rfl 1
        have d2 := st4.cell 3 rfl 2
        simp only [List.getElem?_toArray, List.getElem?_cons_zero, List.getElem?_cons_succ] at d0 d1 d2
        by_cases hK3 : H.length = 0
        case pos =>
          clear hVa m3
          have hK3b : ((H.length : Int) == 0) = true := by rw [hK3]; rfl
          go_wp2_with (go_at_call 14; refine JR.StopM.out ?_)
          refine ⟨?_⟩
          refine (awake_c _).mono ?_
          rintro e wA ⟨rfl, hbA⟩
          have stA := st4.ext hbA
          go_wp2
          go_ret
          exact ⟨rfl, stA.hb⟩
        case neg =>
          have hK3b : ((H.length : Int) == 0) = false := beq_eq_false_iff_ne.2 (by omega)
          obtain rfl : K = 3 := Classical.byContradiction fun h => hK3 (by rw [hVa.2.2.1 h]; rfl)
          have hiv := isVaryS_c J m G m1 m3 vb vhb _ b4 bh4
          clear m1 m2 m3
          go_wp2_with (go_at_call 13; refine JR.StopM.out ?_)
          refine ⟨?_⟩
          refine hiv.mono ?_
          rintro e w5 ⟨ok, rfl, hV, hb⟩
          have st5 := st4.ext hb
          have a5 := a4.below hb
          have ah5 := ah4.below hb
          have b5 := b4.below hb
          have bh5 := bh4.below hb
          clear hb st4 a4 ah4 b4 bh4 c0 c1 c2 d0 d1 d2 hiv
          cases ok with
          | false =>
            clear hV hVa
            go_wp2_with (go_at_call 14; refine JR.StopM.out ?_)
            refine ⟨?_⟩
            refine (awake_c _).mono ?_
            rintro e wA ⟨rfl, hbA⟩
            have stA := st5.ext hbA
            go_wp2
            go_ret
            exact ⟨rfl, stA.hb⟩
          | true =>
            have hVb := hV rfl
            clear hV
            have y0 := st5.cell 1 rfl 0
            have y1 := st5.cell 1 rfl 1
            simp only [List.getElem?_toArray, List.getElem?_cons_zero, List.getElem?_cons_succ] at y0 y1
            have stp := st5.push (b := w5.heap.size) rfl #[.int .i64 p.1, .int .i64 p.2] 42
            have sp := SlP.oneJ stp 0 rfl
            have hvp := varyPoints_c [p] 1 1 (by simp) _ _ sp
            generalize hvq : decide ((1 : Int) ≤ [p].length ∧ ([p].length : Int) ≤ 1 ∧ [p].all okP = true) = vq at *
            go_wp2_with (go_at_call 20; refine JR.StopM.out ?_)
            refine ⟨?_⟩
            refine hvp.mono ?_
            rintro e w6 ⟨rfl, hb⟩
            have hb := (((Below.refl _ w5).alloc (Nat.le_refl _) (.cells #[.int .i64 p.1, .int .i64 p.2] 42)).trans (hb.mono (by simp)))
            have st6 := st5.ext hb
            have a6 := a5.below hb
            have ah6 := ah5.below hb
            have b6 := b5.below hb
            have bh6 := bh5.below hb
            clear hb st5 stp sp hvp y0 y1 a5 ah5 b5 bh5
            cases vq with
            | false =>
              clear hVa hVb hvq
              go_wp2_with (go_at_call 14; refine JR.StopM.out ?_)
              refine ⟨?_⟩
              refine (awake_c _).mono ?_
              rintro e wA ⟨rfl, hbA⟩
              have stA := st6.ext hbA
              go_wp2
              go_ret
              exact ⟨rfl, stA.hb⟩
            | true =>
              have hp := okP_m (of_decide_eq_true hvq).2.2 p (by simp)
              have hp3 : Bn3 p := by unfold Bn3; omega
              have oka := shOk_of hVa
              have okb := shOk_of hVb
              have okm := shOk_rev (AT := AT) oka
              have hHs : ∀ x ∈ H, 3 ≤ x.length ∧ x.length ≤ 8 := fun x hx => ⟨(hVa.2.2.2.1 x hx).1, (hVa.2.2.2.1 x hx).2.1⟩
              have hH3 : ∀ x ∈ H, 3 ≤ x.length := fun x hx => (hHs x hx).1
              have hk3 : H.length ≤ 3 := hVa.2.1
              have hq1 := mtV_rev (AT := AT) (l := l) (m := m) (G := G) hH3 J
              have hq2 := polHas_rev (AT := AT) (l := l) hH3 p
              obtain ⟨ki, hki, hki2⟩ : ∃ ki : Nat, XK % 3 = ki ∧ ki ≤ 2 := ⟨XK % 3, rfl, by omega⟩
              have hrem : (XK : Int).tmod 3 = (ki : Int) := by rw [Int.tmod_eq_emod_of_nonneg (by omega)]; omega
              have wk1 : IntKind.i64.wrap (ki : Int) = (ki : Int) := by
                unfold IntKind.wrap
                simp [IntKind.bits, IntKind.signed]
                omega
              have wk2 : IntKind.i64.wrap (AT : Int) = (AT : Int) := by
                unfold IntKind.wrap
                simp [IntKind.bits, IntKind.signed]
                omega
              obtain ⟨Av, cv, rfl⟩ : ∃ A c, va = .slice A l.length c := a6.len
              have isa := fun u h1 h2 h3 h4 => isx_c hki2 3 l H oka J m G okb (.slice Av l.length cv) (.slice Ah H.length ch) vb vhb u h1 h2 h3 h4
              have ism := fun u x h1 h2 h3 h4 => isx_c hki2 3 l _ okm J m G okb (.slice Av l.length cv) x vb vhb u h1 h2 h3 h4
              rw [hq1] at ism
              have aka := fun u vp vq h1 h2 h3 h4 => ask_hole hki2 oka hp3 (.slice Av l.length cv) (.slice Ah H.length ch) vp vq u h1 h2 h3 h4
              have akm := fun u x vp vq h1 h2 h3 h4 => ask_hole hki2 okm hp3 (.slice Av l.length cv) x vp vq u h1 h2 h3 h4
              rw [hq2] at akm
              obtain ⟨r1, hr1⟩ : ∃ r, mtV 3 l H J m G = r := ⟨_, rfl⟩
              obtain ⟨r2, hr2⟩ : ∃ r, polHas l H p = r := ⟨_, rfl⟩
              simp only [hr1] at isa ism
              simp only [hr2] at aka akm
              clear hr1 hr2 hq1 hq2 oka okb okm hVa hVb hki hvq hp hp3 hl0 hH0 hl1 hm0 hG0 hm1 l1 hK3b
              obtain ⟨n, hn⟩ : ∃ n, n + 1 = H.length := ⟨H.length - 1, by omega⟩
              have hn2 : n ≤ 2 := by omega
              have wkn2 : IntKind.i64.wrap ((H.length : Int) - 1) = (n : Int) := by
                unfold IntKind.wrap
                simp [IntKind.bits, IntKind.signed]
                omega
              obtain ⟨i0, hi, hz0, hz1, hz2⟩ := info_parts infoPs
              have c0 := st6.cell 3 rfl 0
              have c1 := st6.cell 3 rfl 1
              have c2 := st6.cell 3 rfl 2
              simp only [List.getElem?_toArray, List.getElem?_cons_zero, List.getElem?_cons_succ] at c0 c1 c2
              have st7 := st6.push (b := w6.heap.size) rfl #[.int .i64 3, .slice Av l.length cv, .slice none 0 0] 27
              have hwc := st6.hb.size
              have hw6 := hva.below st6.hb
              have g0 := st6.lt 3 rfl
              have lt3 := st6.lt 0 rfl
              go_wp2
              obtain ⟨Bs, hBs⟩ : ∃ x, w6.heap.size + 1 = x := ⟨_, rfl⟩
              go_loopw [12] (fun i wr => ∃ k : Nat, k ≤ n + 1 ∧ i = .int .i64 ((n : Int) - (k : Int)) ∧ ∃ (vo : Value) (xs : List Value), wr.ownsRow Bs 24 1 vo k xs ∧
                (∀ (j : Nat) (x : List (Int × Int)), j < k → (revH AT H)[j]? = some x → ∃ y b, xs[j]? = some y ∧ Bs ≤ b ∧ b < wr.heap.size ∧ SlR b (b + 1) wr y x) ∧
                Bs ≤ wr.heap.size ∧ Blk w wr ((w6.heap.size, #[.int .i64 3, .slice Av l.length cv, vo], 27) :: [(w.heap.size + 1 + 1 + 1, #[.int .u8 AT, .bool back, .int .u8 XK], 35), (w.heap.size + 1 + 1, #[.int .i64 p.1, .int .i64 p.2], 42), (w.heap.size + 1, #[.int .i64 J, vb, vhb], 27), (w.heap.size, #[.int .i64 3, .slice Av l.length cv, .slice Ah H.length ch], 27)])) (fun i _ => (intOf i + 1).toNat)
              case atStart => exact ⟨0, Nat.zero_le _, by simp, .slice none 0 0, [], World.ownsRow_nil _ _ _ _, fun j x hj => absurd hj (Nat.not_lt_zero _), by rw [← hBs]; simp, st7⟩
              case round =>
                clear st7 st6 a6 ah6 b6 bh6 c0 c1 c2 hw6 g0 wkn2
                obtain ⟨k, hkl, hii, vo, xs, hown, hqs, hBr, hB⟩ := hrel
                rcases Nat.lt_or_ge k (n + 1) with hlt | hge
                · obtain ⟨j, hj⟩ : ∃ j : Nat, (n : Int) - (k : Int) = (j : Int) := ⟨n - k, by omega⟩
                  rw [hj] at hii
                  subst hii
                  have hjn : j < H.length := by omega
                  have hjk : H.length - 1 - k = j := by omega
                  obtain ⟨x, hx⟩ : ∃ x, H[j]? = some x := ⟨H[j], by simp [hjn]⟩
                  have hxd : H.getD j [] = x := by rw [List.getD_eq_getElem?_getD, hx]; rfl
                  have hk := hvha
                  obtain ⟨Ah', ch', hAe, hk⟩ := hk
                  cases hAe
                  obtain ⟨bb, off, y, rfl, h1, h2⟩ := hk j x hx
                  obtain ⟨Ay, cy, hyy⟩ := h2.len
                  subst hyy
                  have hxs := hHs x (List.mem_of_getElem? hx)
                  have hxl0 : 0 < x.length := by omega
                  have hlt' : (j : Int) < (H.length : Int) := by omega
                  have gy := (hB.hb.cell (World.block_lt_of_cell? w _ h1)).trans h1
                  have hfg := fun g (hg : vo.ownBlock = some g) => hown.lt g hg
                  have hrow := hB.known 0 _ rfl
                  have hb7r : w6.heap.size < wr.heap.size := hB.lt 0 rfl
                  have hwr := hB.hb.size
                  have hnb : w6.heap.size ∉ vo.ownBlock.toList := by intro hm; simp at hm; have := (hfg _ hm).1; omega
                  have hX : ∀ z ∈ w6.heap.size :: vo.ownBlock.toList, w.heap.size ≤ z := by intro z hm; simp at hm; rcases hm with hm | hm; omega; have := (hfg _ hm).1; omega
                  obtain ⟨at', hat, hat2⟩ : ∃ a : Nat, AT % x.length = a ∧ a < x.length := ⟨AT % x.length, rfl, Nat.mod_lt _ hxl0⟩
                  have hrem1 : (AT : Int).tmod (x.length : Int) = (at' : Int) := by rw [Int.tmod_eq_emod_of_nonneg (by omega)]; omega
                  have hne0 : ((x.length : Int) == 0) = false := beq_eq_false_iff_ne.2 (by omega)
                  obtain ⟨j2, hj2⟩ : ∃ j2 : Nat, j % 2 = j2 := ⟨_, rfl⟩
                  have hrem2 : (j : Int).tmod 2 = (j2 : Int) := by rw [Int.tmod_eq_emod_of_nonneg (by omega)]; omega
                  obtain ⟨bk, hbk⟩ : ∃ b, decide (j % 2 = 0) = b := ⟨_, rfl⟩
                  have hbk2 : ((j2 : Int) == 0) = bk := by
                    rw [← hbk, hj2, Bool.eq_iff_iff]
                    simp
                  have hRk : (revH AT H)[k]? = some (bgn x at' bk) := by
                    unfold revH bgH
                    simp only [List.getElem?_map, List.getElem?_range (show k < H.length by omega), Option.map_some, hjk, hxd, hat, hbk]
                  have hRl : (revH AT H).length = H.length := revH_len AT H
                  have hR0 : ∀ z ∈ revH AT H, 0 < z.length := fun z hz => by
                    unfold revH at hz
                    obtain ⟨q, hq, rfl⟩ := List.mem_map.1 hz
                    unfold bgH
                    rw [bgn_len]
                    have hq := List.mem_range.1 hq
                    have := hH3 _ (getD_mem (H := H) (k := H.length - 1 - q) (by omega))
                    omega
                  have hbl := bgn_len x at' bk
                  have hvo := fun u hu => varyOf_n x (by omega) (.slice Ay x.length cy) u hu
                  have hvb := fun u z hz => vBegun_c x at' bk (by omega) hat2 z u hz
                  have hvt := fun u z hz => varyTo_n (bgn x at' bk) (by omega) z u hz
                  generalize bgn x at' bk = x' at *
                  have hj1 : IntKind.i64.wrap ((j : Int) - 1) = (n : Int) - ((k + 1 : Nat) : Int) := by
                    unfold IntKind.wrap
                    simp [IntKind.bits, IntKind.signed]
                    omega
                  have e0 := hB.cell 4 rfl 0
                  have e1 := hB.cell 4 rfl 1
                  have e2 := hB.cell 4 rfl 2
                  simp only [List.getElem?_toArray, List.getElem?_cons_zero, List.getElem?_cons_succ] at e0 e1 e2
                  clear h1 hk hxd hj2 hbk hat
                  go_wp2
                  refine wp_region_K (w6.heap.size :: vo.ownBlock.toList) [.val (.pointer (some ⟨w6.heap.size, 2, none⟩)), .val (vo), .val (.slice Ay x.length cy), .slr x, .val (.int .u8 AT), .val (.int .i64 AT), .val (.slice Ay x.length cy), .val (.int .i64 (x.length : Nat)), .val (.int .i64 at'), .val (.int .i64 j), .val (.int .i64 j2), .val (.bool bk), .slr x', .slr x', .slcS 24 82, .appS vo k xs Bs 24 82, .val (.pointer (some ⟨w6.heap.size, 2, none⟩)), .turnS w6.heap.size #[.int .i64 3, .slice Av l.length cv, vo] 2 84 27]
                    [[.ini 11], [.frm 0 69, .til 17], [.ini 13], [.frm 2 71], [.ini 9], [.frm 4 73], [.ini 13], [.frm 6 75], [.frm 5 74, .frm 7 76], [.ini 12], [.frm 9 78], [.frm 10 79], [.frm 3 72, .frm 8 77, .frm 11 80], [.frm 12 81], [.frm 13 82], [.frm 1 70, .frm 14 83, .til 15, .frm 13 82], [.ini 11], [.frm 16 85, .frm 15 84, .til 17]]
                    mixed (by kernel_rfl) (by kernel_rfl) (allPre_of ⟨trivial, trivial, trivial, trivial, trivial, trivial, trivial, trivial, trivial, trivial, trivial, trivial, trivial, trivial, trivial, hown, trivial, hrow, trivial⟩)
                    ⟨OpOk.quiet rfl ?_, OpOk.quiet rfl ?_, OpOk.quiet rfl ?_, OpOk.call rfl ?_, OpOk.quiet rfl ?_, OpOk.quiet rfl ?_, OpOk.quiet rfl ?_, OpOk.quiet rfl ?_, OpOk.quiet rfl ?_, OpOk.quiet rfl ?_, OpOk.quiet rfl ?_, OpOk.quiet rfl ?_, OpOk.call rfl ?_, OpOk.call rfl ?_, OpOk.slcS rfl ?_, OpOk.appS (inf := i0) rfl rfl Tryz.underlying25 hi hz0 hz1 hz2 rfl (by unfold maxLen; omega) (by omega) hBr (fun _ hG => hG.size) (fun b hb => (hfg b hb).2) (fun b hb => ⟨row_still rfl, row_still rfl, row_still rfl, row_none rfl (fun h => (nomatch h)), row_still rfl, row_still rfl, row_still rfl, row_still rfl, row_still rfl, row_still rfl, row_still rfl, row_still rfl, row_none rfl (fun h => (nomatch h)), row_none rfl (fun h => (nomatch h)), row_slcS, row_self rfl, row_still rfl, row_turnS (by have := (hfg b hb).1; omega), trivial⟩) (fun b hb => (oldFree_of ⟨.inr (fun h => (nomatch h)), .inr (fun h => (nomatch h)), .inr (fun h => (nomatch h)), .inr (fun h => (nomatch h)), .inr (fun h => (nomatch h)), .inr (fun h => (nomatch h)), .inr (fun h => (nomatch h)), .inr (fun h => (nomatch h)), .inr (fun h => (nomatch h)), .inr (fun h => (nomatch h)), .inr (fun h => (nomatch h)), .inr (fun h => (nomatch h)), .inr (fun h => (nomatch h)), .inr (fun h => (nomatch h)), .inr (fun h => (nomatch h)), .inl rfl, .inr (fun h => (nomatch h)), .inr (by have := (hfg b hb).1; simp [Ent.turnS]; omega), trivial⟩)) ?_ (fun _ b _ hb h => Keep.setRow h (.inr (by simp [hb]))), OpOk.quiet rfl ?_, OpOk.turnS rfl rfl (lt_of_some hrow) ⟨row_still rfl, row_still rfl, row_still rfl, row_none rfl (fun h => (nomatch h)), row_still rfl, row_still rfl, row_still rfl, row_still rfl, row_still rfl, row_still rfl, row_still rfl, row_still rfl, row_none rfl (fun h => (nomatch h)), row_none rfl (fun h => (nomatch h)), row_slcS, row_appS hnb, row_still rfl, row_self rfl, trivial⟩ (oldFree_of ⟨.inr (fun h => (nomatch h)), .inr (fun h => (nomatch h)), .inr (fun h => (nomatch h)), .inr (fun h => (nomatch h)), .inr (fun h => (nomatch h)), .inr (fun h => (nomatch h)), .inr (fun h => (nomatch h)), .inr (fun h => (nomatch h)), .inr (fun h => (nomatch h)), .inr (fun h => (nomatch h)), .inr (fun h => (nomatch h)), .inr (fun h => (nomatch h)), .inr (fun h => (nomatch h)), .inr (fun h => (nomatch h)), .inr (fun h => (nomatch h)), .inr hnb, .inr (fun h => (nomatch h)), .inl rfl, trivial⟩) (by kernel_rfl) (by simp) ?_ (fun _ _ h => Keep.setRow h (.inr (by simp))), trivial⟩ ?_
                  · intro a u _ hf
                    simp [facts, Need.fact, Ent.val, Act.eval] at hf
                    go_simp
                  · intro a u _ hf
                    obtain ⟨⟨_, _, f1⟩, f2, -⟩ := hf
                    have f1' : a.eval (.tmp 69) = .pointer (some ⟨w6.heap.size, 2, none⟩) := f1
                    have c11 := cellAt (show u.heap[w6.heap.size]? = some (.cells #[.int .i64 3, .slice Av l.length cv, vo] 27 (0, 0)) from f2) 2
                    simp only [List.getElem?_toArray, List.getElem?_cons_zero, List.getElem?_cons_succ] at c11
                    clear f1 f2
                    simp [Act.eval] at f1'
                    go_simp
                  · intro a u _ hf
                    simp [facts, Need.fact, Ent.val, Act.eval] at hf
                    go_simp
                  · intro a u hG hf
                    simp [facts, Need.fact, Ent.val, Act.eval] at hf
                    have s1 := h2.below (Keep.belowX hG hB.hb hB.hb.size hX)
                    refine ⟨_, _, by go_simp, (hvo u s1).mono ?_⟩
                    rintro e w' ⟨v', rfl, hr, hb⟩
                    exact ⟨_, rfl, hb, hr⟩
                  · intro a u _ hf
                    simp [facts, Need.fact, Ent.val, Act.eval] at hf
                    go_simp
                  · intro a u _ hf
                    simp [facts, Need.fact, Ent.val, Act.eval] at hf
                    go_simp
                  · intro a u _ hf
                    simp [facts, Need.fact, Ent.val, Act.eval] at hf
                    go_simp
                  · intro a u _ hf
                    simp [facts, Need.fact, Ent.val, Act.eval] at hf
                    go_simp
                  · intro a u _ hf
                    have hln : ¬ x = [] := fun h => by rw [h] at hxl0; simp at hxl0
                    simp [facts, Need.fact, Ent.val, Act.eval] at hf
                    go_simp
                    try exact hln
                  · intro a u _ hf
                    simp [facts, Need.fact, Ent.val, Act.eval] at hf
                    go_simp
                  · intro a u _ hf
                    simp [facts, Need.fact, Ent.val, Act.eval] at hf
                    go_simp
                  · intro a u _ hf
                    simp [facts, Need.fact, Ent.val, Act.eval] at hf
                    go_simp
                  · intro a u hG hf
                    obtain ⟨⟨_, _, f2⟩, ⟨_, _, f3⟩, ⟨_, _, f4⟩, -⟩ := hf
                    have f2 : SlR _ _ u (a.eval (.tmp 72)) x := f2
                    obtain ⟨A9, c9, f5⟩ := SlR.len f2
                    rw [f5] at f2
                    have f3 : a.eval (.tmp 77) = .int .i64 at' := f3
                    have f4 : a.eval (.tmp 80) = .bool bk := f4
                    simp [Act.eval] at f3 f4 f5
                    refine ⟨_, _, by go_simp, (hvb u _ f2.p).mono ?_⟩
                    rintro e w' ⟨v', rfl, hr, hb⟩
                    exact ⟨_, rfl, hb, hr⟩
                  · intro a u hG hf
                    obtain ⟨⟨_, _, f2⟩, -⟩ := hf
                    have f2 : SlR _ _ u (a.eval (.tmp 81)) x' := f2
                    obtain ⟨A9, c9, f5⟩ := SlR.len f2
                    rw [f5] at f2
                    simp [Act.eval] at f5
                    refine ⟨_, _, by go_simp, (hvt u _ f2.p).mono ?_⟩
                    rintro e w' ⟨v', rfl, hr, hb⟩
                    exact ⟨_, rfl, hb, hr⟩
                  · intro a u _ hf
                    obtain ⟨⟨_, _, f2⟩, -⟩ := hf
                    obtain ⟨A9, c9, f3⟩ := SlR.len f2
                    simp [Act.eval] at f3
                    go_simp
                  · intro a u _ hf
                    obtain ⟨⟨_, _, f1⟩, ⟨_, _, b, f2, _, _, f3⟩, f4, ⟨_, _, f5⟩, -⟩ := hf
                    obtain ⟨A9, c9, f6⟩ := SlR.len f5
                    exact ⟨f1, f4, by rw [f6]; rfl, b, f2, f3⟩
                  · intro a u _ hf
                    simp [facts, Need.fact, Ent.val, Act.eval] at hf
                    go_simp
                  · intro a u _ hf
                    obtain ⟨⟨_, _, f1⟩, ⟨_, _, f2, f5⟩, f4, -⟩ := hf
                    exact ⟨f1, own_one f2, f4⟩
                  intro u lw hw wc2 hKp hE hI hD
                  simp [allE, Ent.appS, Ent.slcS, Ent.slr, Ent.turnS, Ent.val] at hE
                  obtain ⟨u0, u1, u2, -, u4, u5, u6, u7, u8, u9, u10, u11, -, u13, -, u15, u16, e17⟩ := hE
                  simp only [allPut, Act.put, u0, u2, u4, u5, u6, u7, u8, u9, u10, u11, u16]
                  clear u0 u2 u4 u5 u6 u7 u8 u9 u10 u11 u16
                  simp [allPut, Act.put, Act.eval] at e17
                  replace u13 : SlR (lw 13) (hw 13) wc2 (u 13) x' := u13
                  obtain ⟨o15, -⟩ := u15
                  simp [allPut, Act.put, Act.eval] at o15
                  have i13 := hI 13 (by show 13 < 18; omega)
                  have hxsl : xs.length = k := by have := hown.1; omega
                  have h00 : 0 < k → ∃ A m c, xs[0]? = some (.slice A m c) := by
                    intro hk0
                    obtain ⟨y0, b0, e1, e2, e3, e4⟩ := hqs 0 ((revH AT H)[0]'(by omega)) hk0 (by simp)
                    obtain ⟨A', c', e4⟩ := e4.len
                    exact ⟨A', _, c', by rw [e1, e4]⟩
                  have hqs2 : ∀ (j : Nat) (x2 : List (Int × Int)), j < k + 1 → (revH AT H)[j]? = some x2 → ∃ y b, (xs ++ [u 13])[j]? = some y ∧ Bs ≤ b ∧ b < wc2.heap.size ∧ SlR b (b + 1) wc2 y x2 := by
                    intro j' x2 hj' hx2
                    have hx20 := hR0 x2 (List.mem_of_getElem? hx2)
                    by_cases hjk' : j' = k
                    · subst hjk'
                      rw [hRk] at hx2
                      cases hx2
                      obtain ⟨b1, j1, j3, j4, r1'⟩ := u13.one hx20
                      exact ⟨u 13, b1, by rw [List.getElem?_append_right (by omega)]; simp [hxsl], by have := i13.2; omega, j4, r1'⟩
                    · obtain ⟨y', b', e1, e2, e3, e4⟩ := hqs j' x2 (by omega) hx2
                      have hne := own_neR hown (h00 (by omega)) e4 hx20
                      refine ⟨y', b', by rw [List.getElem?_append_left (by omega)]; exact e1, e2, Nat.lt_of_lt_of_le e3 hKp.size, e4.keep' fun b h1 h2 h3 => ?_⟩
                      have hbb : b = b' := by omega
                      subst hbb
                      exact hKp.block b h3 (by
                        intro hm
                        simp at hm
                        rcases hm with hm | hm
                        · omega
                        · exact hne hm.symm)
                  have hB2 := (hB.tail.keep hKp (fun i z hz => by
                    intro hm
                    simp at hm
                    rcases i with _ | _ | _ | _ | i <;> simp at hz <;> subst hz <;> simp at hm <;> (rcases hm with hm | hm; omega; have := (hfg _ hm).1; omega)) (fun z hz => hX z hz)).add e17
                  have hBs2 : Bs ≤ wc2.heap.size := Nat.le_trans hBr hKp.size
                  try simp only [List.setIfInBounds_toArray, List.set_cons_zero, List.set_cons_succ]
                  simp only [u1]
                  generalize u 15 = y15 at *
                  generalize u 14 = y14 at *
                  generalize u 13 = y13 at *
                  generalize u 12 = y12 at *
                  generalize u 3 = y3 at *
                  try clear hKp
                  try clear hI
                  try clear hD
                  try clear e17
                  try clear u1
                  try clear u13
                  try clear i13
                  try clear hqs
                  try clear hB
                  try clear hown
                  try clear hrow
                  try clear e0
                  try clear e1
                  try clear e2
                  try clear gy
                  try clear h2
                  try clear h00
                  try clear hnb
                  try clear hX
                  try clear hfg
                  try clear hx
                  try clear hvo
                  try clear hvb
                  try clear hvt
                  try clear hRk
                  try clear hR0
                  try clear hrem1
                  try clear hrem2
                  try clear hbk2
                  try clear hne0
                  try clear isa
                  try clear ism
                  try clear aka
                  try clear akm
                  try clear hva
                  try clear hvha
                  try clear hvb
                  try clear hvhb
                  go_wp2
                  go_roundw
                  case rel => exact ⟨k + 1, by omega, by first | (rw [hj1]; done) | exact congrArg (Value.int .i64) (by omega), _, _, o15, hqs2, hBs2, hB2⟩
                  case measure => simp [intOf]; omega
                · obtain rfl : k = n + 1 := by omega
                  have hneg : (n : Int) - ((n + 1 : Nat) : Int) = -1 := by omega
                  rw [hneg] at hii
                  subst hii
                  have hRl : (revH AT H).length = H.length := revH_len AT H
                  have hol := SlH.own (H := revH AT H) (by rw [hRl, ← hn]; exact hown) (fun j x hj hx => by
                    obtain ⟨y, b, e1, -, -, e2⟩ := hqs j x (by omega) hx
                    exact ⟨y, e1, e2.p⟩)
                  obtain ⟨Ao, co, hvo⟩ : ∃ A c, vo = .slice A (revH AT H).length c := by
                    obtain ⟨A, c, h1, -⟩ := id hol
                    exact ⟨A, c, h1⟩
                  subst hvo
                  clear hqs hown hBr hBs hRl
                  have a7 := hva.below hB.hb
                  have ah7 := hvha.below hB.hb
                  have b7 := hvb.below hB.hb
                  have bh7 := hvhb.below hB.hb
                  clear hva hvha hvb hvhb
                  generalize revH AT H = H2 at *
                  have z0 := hB.cell 2 rfl 0
                  have z1 := hB.cell 2 rfl 1
                  have c0 := hB.cell 4 rfl 0
                  have c1 := hB.cell 4 rfl 1
                  have c2 := hB.cell 4 rfl 2
                  simp only [List.getElem?_toArray, List.getElem?_cons_zero, List.getElem?_cons_succ] at c0 c1 c2
                  have d0 := hB.cell 0 rfl 0
                  have d1 := hB.cell 0 rfl 1
                  have d2 := hB.cell 0 rfl 2
                  simp only [List.getElem?_toArray, List.getElem?_cons_zero, List.getElem?_cons_succ] at d0 d1 d2
                  simp only [List.getElem?_toArray, List.getElem?_cons_zero, List.getElem?_cons_succ] at z0 z1
                  have st8 := (hB.push (b := wr.heap.size) rfl #[.int .i64 p.1, .int .i64 p.2] 42).push (b := wr.heap.size + 1) (by simp) #[.int .i64 0, .slice (some ⟨wr.heap.size, 0, none⟩) 1 1, .slice none 0 0] 27
                  have hb := ((Below.refl wr.heap.size wr).alloc (Nat.le_refl _) (.cells #[.int .i64 p.1, .int .i64 p.2] 42)).alloc (by simp) (.cells #[.int .i64 0, .slice (some ⟨wr.heap.size, 0, none⟩) 1 1, .slice none 0 0] 27)
                  have a8 := a7.below hb
                  have ah8 := ah7.below hb
                  have b8 := b7.below hb
                  have bh8 := bh7.below hb
                  have mh8 := hol.below hb
                  have sp8 := SlP.oneJ st8 1 rfl
                  have f0 := st8.cell 6 rfl 0
                  have f1 := st8.cell 6 rfl 1
                  have f2 := st8.cell 6 rfl 2
                  simp only [List.getElem?_toArray, List.getElem?_cons_zero, List.getElem?_cons_succ] at f0 f1 f2
                  have g0 := st8.cell 0 rfl 0
                  have g1 := st8.cell 0 rfl 1
                  have g2 := st8.cell 0 rfl 2
                  simp only [List.getElem?_toArray, List.getElem?_cons_zero, List.getElem?_cons_succ] at g0 g1 g2
                  clear hb a7 ah7 b7 bh7 hol
                  go_wp2_with (go_at_call 22; refine JR.StopM.out ?_)
                  refine ⟨?_⟩
                  refine (aka _ _ _ a8 ah8 sp8 slH_none).mono ?_
                  rintro e w9 ⟨rfl, hb⟩
                  have st9 := st8.ext hb
                  have a9 := a8.below hb
                  have ah9 := ah8.below hb
                  have b9 := b8.below hb
                  have bh9 := bh8.below hb
                  have mh9 := mh8.below hb
                  have sp9 := sp8.below hb
                  clear hb hB st8 a8 ah8 b8 bh8 mh8 sp8 aka z0 z1 c0 c1 c2 d0 d1 d2 f0 f1 f2 g0 g1 g2
                  have d0 := st9.cell 2 rfl 0
                  have d1 := st9.cell 2 rfl 1
                  have d2 := st9.cell 2 rfl 2
                  simp only [List.getElem?_toArray, List.getElem?_cons_zero, List.getElem?_cons_succ] at d0 d1 d2
                  have g0 := st9.cell 0 rfl 0
                  have g1 := st9.cell 0 rfl 1
                  have g2 := st9.cell 0 rfl 2
                  simp only [List.getElem?_toArray, List.getElem?_cons_zero, List.getElem?_cons_succ] at g0 g1 g2
                  go_wp2_with (go_at_call 22; refine JR.StopM.out ?_)
                  refine ⟨?_⟩
                  refine (akm _ _ _ _ a9 mh9 sp9 slH_none).mono ?_
                  rintro e w10 ⟨rfl, hb⟩
                  have st10 := st9.ext hb
                  have a10 := a9.below hb
                  have ah10 := ah9.below hb
                  have b10 := b9.below hb
                  have bh10 := bh9.below hb
                  have mh10 := mh9.below hb
                  have sp10 := sp9.below hb
                  clear hb st9 a9 ah9 b9 bh9 mh9 sp9 akm d0 d1 d2 g0 g1 g2 hrem wk1
                  go_wp2
                  refine wp_region_K [] [.val (.bool r2), .val (.bool r2), .val (.bool true), .val (.bool true), .val (.agg #[.int .i64 3, .slice Av l.length cv, .slice Ah H.length ch]), .val (.agg #[.int .i64 J, vb, vhb]), .val (.int .i64 ki), .val (.bool r1), .val (.agg #[.int .i64 3, .slice Av l.length cv, .slice Ao H2.length co]), .val (.agg #[.int .i64 J, vb, vhb]), .val (.int .i64 ki), .val (.bool r1), .val (.bool true), .val (.bool true), .val (.bool true), .val (.bool true), .val (.bool true), .val (.bool true)]
                    [[.ini 16], [.ini 18], [.frm 0 106, .frm 1 107], [.frm 2 108], [.frm 3 109, .ini 4], [.frm 3 109, .ini 5], [.frm 3 109, .ini 14], [.frm 3 109, .frm 4 110, .frm 5 111, .frm 6 112], [.frm 3 109, .ini 11], [.frm 3 109, .ini 5], [.frm 3 109, .ini 14], [.frm 3 109, .frm 8 114, .frm 9 115, .frm 10 116], [.frm 3 109, .frm 7 113, .frm 11 117], [.frm 3 109, .frm 12 118], [.frm 13 119], [.frm 14 120], [.frm 14 120, .frm 15 121], [.frm 16 122]]
                    mixed (by kernel_rfl) (by kernel_rfl) (allPre_of ⟨trivial, trivial, trivial, trivial, trivial, trivial, trivial, trivial, trivial, trivial, trivial, trivial, trivial, trivial, trivial, trivial, trivial, trivial, trivial⟩)
                    ⟨OpOk.quiet rfl ?_, OpOk.quiet rfl ?_, OpOk.quiet rfl ?_, OpOk.quiet rfl ?_, OpOk.quietG rfl (by kernel_rfl) (fun a w hf => by obtain ⟨h1, -⟩ := hf; exact h1.elim fun _ h => h.elim fun _ h => h) ?_, OpOk.quietG rfl (by kernel_rfl) (fun a w hf => by obtain ⟨h1, -⟩ := hf; exact h1.elim fun _ h => h.elim fun _ h => h) ?_, OpOk.quietG rfl (by kernel_rfl) (fun a w hf => by obtain ⟨h1, -⟩ := hf; exact h1.elim fun _ h => h.elim fun _ h => h) ?_, OpOk.callG rfl (by kernel_rfl) (fun a w hf => by obtain ⟨h1, -⟩ := hf; exact h1.elim fun _ h => h.elim fun _ h => h) ?_, OpOk.quietG rfl (by kernel_rfl) (fun a w hf => by obtain ⟨h1, -⟩ := hf; exact h1.elim fun _ h => h.elim fun _ h => h) ?_, OpOk.quietG rfl (by kernel_rfl) (fun a w hf => by obtain ⟨h1, -⟩ := hf; exact h1.elim fun _ h => h.elim fun _ h => h) ?_, OpOk.quietG rfl (by kernel_rfl) (fun a w hf => by obtain ⟨h1, -⟩ := hf; exact h1.elim fun _ h => h.elim fun _ h => h) ?_, OpOk.callG rfl (by kernel_rfl) (fun a w hf => by obtain ⟨h1, -⟩ := hf; exact h1.elim fun _ h => h.elim fun _ h => h) ?_, OpOk.quietG rfl (by kernel_rfl) (fun a w hf => by obtain ⟨h1, -⟩ := hf; exact h1.elim fun _ h => h.elim fun _ h => h) ?_, OpOk.quiet rfl ?_, OpOk.quiet rfl ?_, OpOk.callG rfl (by kernel_rfl) (fun a w hf => by obtain ⟨h1, -⟩ := hf; exact h1.elim fun _ h => h.elim fun _ h => h) ?_, OpOk.quiet rfl ?_, OpOk.quiet rfl ?_, trivial⟩ ?_
                  · intro a u _ hf
                    simp [facts, Need.fact, Ent.val, Act.eval] at hf
                    go_simp
                  · intro a u _ hf
                    simp [facts, Need.fact, Ent.val, Act.eval] at hf
                    go_simp
                  · intro a u _ hf
                    simp [facts, Need.fact, Ent.val, Act.eval] at hf
                    cases r2 <;> go_simp
                  · intro a u _ hf
                    simp [facts, Need.fact, Ent.val, Act.eval] at hf
                    go_simp
                  · intro a u hG hf
                    simp [facts, Need.fact, Ent.val, Act.eval] at hf
                    have stu := st10.keep hG (fun i x _ => by simp) (fun x hx => by simp at hx)
                    have y0 := stu.cell 6 rfl 0
                    have y1 := stu.cell 6 rfl 1
                    have y2 := stu.cell 6 rfl 2
                    simp only [List.getElem?_toArray, List.getElem?_cons_zero, List.getElem?_cons_succ] at y0 y1 y2
                    go_simp
                  · intro a u hG hf
                    simp [facts, Need.fact, Ent.val, Act.eval] at hf
                    have stu := st10.keep hG (fun i x _ => by simp) (fun x hx => by simp at hx)
                    have y0 := stu.cell 5 rfl 0
                    have y1 := stu.cell 5 rfl 1
                    have y2 := stu.cell 5 rfl 2
                    simp only [List.getElem?_toArray, List.getElem?_cons_zero, List.getElem?_cons_succ] at y0 y1 y2
                    go_simp
                  · intro a u _ hf
                    simp [facts, Need.fact, Ent.val, Act.eval] at hf
                    go_simp
                  · intro a u hG hf
                    simp [facts, Need.fact, Ent.val, Act.eval] at hf
                    have hb5 := hG.below
                    refine ⟨_, _, by go_simp, (isa u (a10.below hb5) (ah10.below hb5) (b10.below hb5) (bh10.below hb5)).mono ?_⟩
                    rintro e w' ⟨rfl, hb⟩
                    exact ⟨_, rfl, hb, rfl⟩
                  · intro a u hG hf
                    simp [facts, Need.fact, Ent.val, Act.eval] at hf
                    have stu := st10.keep hG (fun i x _ => by simp) (fun x hx => by simp at hx)
                    have y0 := stu.cell 2 rfl 0
                    have y1 := stu.cell 2 rfl 1
                    have y2 := stu.cell 2 rfl 2
                    simp only [List.getElem?_toArray, List.getElem?_cons_zero, List.getElem?_cons_succ] at y0 y1 y2
                    go_simp
                  · intro a u hG hf
                    simp [facts, Need.fact, Ent.val, Act.eval] at hf
                    have stu := st10.keep hG (fun i x _ => by simp) (fun x hx => by simp at hx)
                    have y0 := stu.cell 5 rfl 0
                    have y1 := stu.cell 5 rfl 1
                    have y2 := stu.cell 5 rfl 2
                    simp only [List.getElem?_toArray, List.getElem?_cons_zero, List.getElem?_cons_succ] at y0 y1 y2
                    go_simp
                  · intro a u _ hf
                    simp [facts, Need.fact, Ent.val, Act.eval] at hf
                    go_simp
                  · intro a u hG hf
                    simp [facts, Need.fact, Ent.val, Act.eval] at hf
                    have hb5 := hG.below
                    refine ⟨_, _, by go_simp, (ism u _ (a10.below hb5) (mh10.below hb5) (b10.below hb5) (bh10.below hb5)).mono ?_⟩
                    rintro e w' ⟨rfl, hb⟩
                    exact ⟨_, rfl, hb, rfl⟩
                  · intro a u _ hf
                    simp [facts, Need.fact, Ent.val, Act.eval] at hf
                    cases r1 <;> go_simp
                  · intro a u _ hf
                    simp [facts, Need.fact, Ent.val, Act.eval] at hf
                    go_simp
                  · intro a u _ hf
                    simp [facts, Need.fact, Ent.val, Act.eval] at hf
                    go_simp
                  · intro a u hG hf
                    simp [facts, Need.fact, Ent.val, Act.eval] at hf
                    have hb5 := hG.below
                    refine ⟨_, _, by go_simp, (awake_c u).mono ?_⟩
                    rintro e w' ⟨rfl, hb⟩
                    exact ⟨_, rfl, hb, rfl⟩
                  · intro a u _ hf
                    simp [facts, Need.fact, Ent.val, Act.eval] at hf
                    go_simp
                  · intro a u _ hf
                    simp [facts, Need.fact, Ent.val, Act.eval] at hf
                    go_simp
                  intro u lw hw wd hKp hE hI hD
                  simp only [allE, Ent.val] at hE
                  obtain ⟨u0, u1, u2, u3, u4, u5, u6, u7, u8, u9, u10, u11, u12, u13, u14, u15, u16, u17, -⟩ := hE
                  simp only [Nat.reduceAdd] at u0 u1 u2 u3 u4 u5 u6 u7 u8 u9 u10 u11 u12 u13 u14 u15 u16 u17
                  simp only [allPut, Act.put, Nat.reduceAdd, u0, u1, u2, u3, u4, u5, u6, u7, u8, u9, u10, u11, u12, u13, u14, u15, u16, u17]
                  try simp only [List.setIfInBounds_toArray, List.set_cons_zero, List.set_cons_succ]
                  clear hI hD isa ism u0 u1 u2 u3 u4 u5 u6 u7 u8 u9 u10 u11 u12 u13 u14 u15 u16 u17
                  have st11 := st10.keep hKp (fun i x _ => by simp) (fun x hx => by simp at hx)
                  clear hKp st10 a10 ah10 b10 bh10 mh10 sp10
                  go_wp2
                  go_ret
                  exact ⟨rfl, st11.hb⟩
end Go.Proofs.YtbfanhdofopnnaaGreat
