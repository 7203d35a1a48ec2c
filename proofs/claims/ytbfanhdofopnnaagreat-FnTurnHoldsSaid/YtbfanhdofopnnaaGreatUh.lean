import Derived.Test.YtbfanhdofopnnaaGreatUd
import Derived.Test.YtbfanhdofopnnaaGreatQU
import Derived.Test.YtbfanhdofopnnaaGreatAwake
import Derived.Test.YtbfanhdofopnnaaGreatIv
import Derived.Test.YtbfanhdofopnnaaGreatQM
set_option linter.unusedSimpArgs false
set_option linter.unusedVariables false
/-! FnTurnHolds: the walk (printed by gen/uh.py). -/
namespace JR
open Go Go.RowKit PF
/-- a shape, all of it in new blocks -/
def Ent.shp (K : Int) (l : List (Int × Int)) (H : List (List (Int × Int))) : Ent :=
  .rel (fun v lo hi w => ∃ x y, v = .agg #[.int .i64 K, x, y] ∧ SlR lo hi w x l ∧ SlHR lo hi w y H) (fun _ _ _ _ _ hk ⟨x, y, h1, h2, h3⟩ => ⟨x, y, h1, h2.keep hk, h3.keep hk⟩)
end JR
namespace Go.Proofs.YtbfanhdofopnnaaGreat
open Go.RowKit PF JR
set_option maxRecDepth 100000 in
set_option maxHeartbeats 4000000 in
theorem turnHolds_c (KK S DX DY : Int) (hK0 : 0 ≤ KK) (K : Int) (l : List (Int × Int)) (H : List (List (Int × Int))) (J : Int) (m : List (Int × Int)) (G : List (List (Int × Int)))
    (hl0 : l.length ≤ 9223372036854775807) (hH0 : H.length ≤ 9223372036854775807) (hl1 : ∀ h ∈ H, h.length ≤ 9223372036854775807) (hm0 : m.length ≤ 9223372036854775807) (hG0 : G.length ≤ 9223372036854775807) (hm1 : ∀ h ∈ G, h.length ≤ 9223372036854775807)
    (KD : Nat) (hKD : KD ≤ 255) (va vha vb vhb : Value) (w : World) (hva : SlP w va l) (hvha : SlH w vha H) (hvb : SlP w vb m) (hvhb : SlH w vhb G) :
    Calls Tryz.prog 8 #[.agg #[.int .u8 KK, .int .i64 S, .int .i64 DX, .int .i64 DY], .agg #[.int .i64 K, va, vha], .agg #[.int .i64 J, vb, vhb], .int .u8 KD] w fun e w' => e = .returned (.bool true) ∧ Below w.heap.size w w' := by
  have st0 := (((Blk.nil w).push rfl #[.int .u8 KK, .int .i64 S, .int .i64 DX, .int .i64 DY] 23).push (b := w.heap.size + 1) (by simp) #[.int .i64 K, va, vha] 27).push (b := w.heap.size + 1 + 1) (by simp) #[.int .i64 J, vb, vhb] 27
  have a0 := hva.below st0.hb
  have ah0 := hvha.below st0.hb
  have b0 := hvb.below st0.hb
  have bh0 := hvhb.below st0.hb
  have c0 := st0.cell 1 rfl 0
  have c1 := st0.cell 1 rfl 1
  have c2 := st0.cell 1 rfl 2
  simp only [List.getElem?_toArray, List.getElem?_cons_zero, List.getElem?_cons_succ] at c0 c1 c2
  clear hva hvha hvb hvhb
  go_enter Tryz.func8, Tryz.ntmps8
  go_wp2_with (go_at_call 11; refine JR.StopM.out ?_)
  refine ⟨?_⟩
  refine (fits7_c K l H hl0 hH0 hl1 va vha _ a0 ah0).mono ?_
  rintro e w1 ⟨rfl, hb⟩
  have st1 := st0.ext hb
  have a1 := a0.below hb
  have ah1 := ah0.below hb
  have b1 := b0.below hb
  have bh1 := bh0.below hb
  clear hb st0 a0 ah0 b0 bh0 c0 c1 c2
  generalize hfit : (decide (l.length ≤ 2147483647) && (decide (H.length ≤ 2147483647) && H.all fun h => decide (h.length ≤ 2147483647))) = fit
  cases fit with
  | false =>
    clear hfit
    go_wp2
    go_ret
    exact ⟨rfl, st1.hb⟩
  | true =>
    simp only [Bool.and_eq_true, decide_eq_true_eq, List.all_eq_true] at hfit
    obtain ⟨l1, l2, l3⟩ := hfit
    have c0 := st1.cell 0 rfl 0
    have c1 := st1.cell 0 rfl 1
    have c2 := st1.cell 0 rfl 2
    simp only [List.getElem?_toArray, List.getElem?_cons_zero, List.getElem?_cons_succ] at c0 c1 c2
    go_wp2_with (go_at_call 11; refine JR.StopM.out ?_)
    refine ⟨?_⟩
    refine (fits7_c J m G hm0 hG0 hm1 vb vhb _ b1 bh1).mono ?_
    rintro e w2 ⟨rfl, hb⟩
    have st2 := st1.ext hb
    have a2 := a1.below hb
    have ah2 := ah1.below hb
    have b2 := b1.below hb
    have bh2 := bh1.below hb
    clear hb st1 a1 ah1 b1 bh1 c0 c1 c2
    generalize hfit : (decide (m.length ≤ 2147483647) && (decide (G.length ≤ 2147483647) && G.all fun h => decide (h.length ≤ 2147483647))) = fit
    cases fit with
    | false =>
      clear hfit
      go_wp2
      go_ret
      exact ⟨rfl, st2.hb⟩
    | true =>
      simp only [Bool.and_eq_true, decide_eq_true_eq, List.all_eq_true] at hfit
      obtain ⟨m1, m2, m3⟩ := hfit
      have q0 := st2.cell 2 rfl 0
      have q1 := st2.cell 2 rfl 1
      have q2 := st2.cell 2 rfl 2
      have q3 := st2.cell 2 rfl 3
      simp only [List.getElem?_toArray, List.getElem?_cons_zero, List.getElem?_cons_succ] at q0 q1 q2 q3
      go_wp2_with (go_at_call 12; refine JR.StopM.out ?_)
      refine ⟨?_⟩
      refine (ivt_c KK S DX DY _).mono ?_
      rintro e w3 ⟨rfl, hb⟩
      have st3 := st2.ext hb
      have a3 := a2.below hb
      have ah3 := ah2.below hb
      have b3 := b2.below hb
      have bh3 := bh2.below hb
      clear hb st2 a2 ah2 b2 bh2 q0 q1 q2 q3
      generalize hivt : decide (KK ≤ 7 ∧ 1 ≤ S ∧ S ≤ 8 ∧ -4096 ≤ DX ∧ DX ≤ 4096 ∧ -4096 ≤ DY ∧ DY ≤ 4096) = ivt
      cases ivt with
      | false =>
        clear hivt l3 m3
        go_wp2_with (go_at_call 14; refine JR.StopM.out ?_)
        refine ⟨?_⟩
        refine (awake_c _).mono ?_
        rintro e wA ⟨rfl, hbA⟩
        have stA := st3.ext hbA
        go_wp2
        go_ret
        exact ⟨rfl, stA.hb⟩
      | true =>
        have hivt := of_decide_eq_true hivt
        have t0 : 0 ≤ KK ∧ KK ≤ 7 := ⟨hK0, hivt.1⟩
        have t2 : 1 ≤ S ∧ S ≤ 8 := ⟨hivt.2.1, hivt.2.2.1⟩
        have t4 : -4096 ≤ DX ∧ DX ≤ 4096 ∧ -4096 ≤ DY ∧ DY ≤ 4096 := hivt.2.2.2
        have t3 : -65536 ≤ DX ∧ DX ≤ 65536 ∧ -65536 ≤ DY ∧ DY ≤ 65536 := by omega
        clear hivt
        have c0 := st3.cell 1 rfl 0
        have c1 := st3.cell 1 rfl 1
        have c2 := st3.cell 1 rfl 2
        simp only [List.getElem?_toArray, List.getElem?_cons_zero, List.getElem?_cons_succ] at c0 c1 c2
        have hiv := isConvexVary_c K l H l1 l3 va vha _ a3 ah3
        clear l1 l2 l3
        go_wp2_with (go_at_call 27; refine JR.StopM.out ?_)
        refine ⟨?_⟩
        refine hiv.mono ?_
        rintro e w4 ⟨ok, rfl, hV, hb⟩
        have st4 := st3.ext hb
        have a4 := a3.below hb
        have ah4 := ah3.below hb
        have b4 := b3.below hb
        have bh4 := bh3.below hb
        clear hb st3 a3 ah3 b3 bh3 c0 c1 c2 hiv
        cases ok with
        | false =>
          clear hV m3
          go_wp2_with (go_at_call 14; refine JR.StopM.out ?_)
          refine ⟨?_⟩
          refine (awake_c _).mono ?_
          rintro e wA ⟨rfl, hbA⟩
          have stA := st4.ext hbA
          go_wp2
          go_ret
          exact ⟨rfl, stA.hb⟩
        | true =>
          obtain ⟨hVa, hcv⟩ := hV rfl
          clear hV
          have c0 := st4.cell 0 rfl 0
          have c1 := st4.cell 0 rfl 1
          have c2 := st4.cell 0 rfl 2
          simp only [List.getElem?_toArray, List.getElem?_cons_zero, List.getElem?_cons_succ] at c0 c1 c2
          have hiv := isVaryS_c J m G m1 m3 vb vhb _ b4 bh4
          clear m1 m2 m3
          go_wp2_with (go_at_call 13; refine JR.StopM.out ?_)
          refine ⟨?_⟩
          refine hiv.mono ?_
          rintro e w5 ⟨ok, rfl, hV, hb⟩
          have st5 := st4.ext hb
          have a5 := a4.below hb
          have ah5 := ah4.below hb
          have b5 := b4.below hb
          have bh5 := bh4.below hb
          clear hb st4 a4 ah4 b4 bh4 c0 c1 c2 hiv
          cases ok with
          | false =>
            clear hV hVa hcv
            go_wp2_with (go_at_call 14; refine JR.StopM.out ?_)
            refine ⟨?_⟩
            refine (awake_c _).mono ?_
            rintro e wA ⟨rfl, hbA⟩
            have stA := st5.ext hbA
            go_wp2
            go_ret
            exact ⟨rfl, stA.hb⟩
          | true =>
            have hVb := hV rfl
            clear hV
            obtain ⟨oka, oka'⟩ := shOk_turn (KK := KK) (S := S) (DX := DX) (DY := DY) t0 t2 t4 hVa
            obtain ⟨okb, okb'⟩ := shOk_turn (KK := KK) (S := S) (DX := DX) (DY := DY) t0 t2 t4 hVb
            have hcv' := cvOk_turn (DX := DX) (DY := DY) t0 (show 0 < S by omega) hcv (fun h => by
              rcases oka.2.2.2 with ⟨g, -⟩ | ⟨g, -⟩ | ⟨g, -⟩ | ⟨-, g, -⟩
              · omega
              · omega
              · omega
              · exact g)
            have hmt := hdV_turn (DX := DX) (DY := DY) t0 (show 0 < S by omega) oka hcv okb
            obtain ⟨ki, hki, hki2⟩ : ∃ ki : Nat, KD % 3 = ki ∧ ki ≤ 2 := ⟨KD % 3, rfl, by omega⟩
            have hrem : (KD : Int).tmod 3 = (ki : Int) := by rw [Int.tmod_eq_emod_of_nonneg (by omega)]; omega
            have wk1 : IntKind.i64.wrap (ki : Int) = (ki : Int) := by
              unfold IntKind.wrap
              simp [IntKind.bits, IntKind.signed]
              omega
            have as1 := fun u h1 h2 h3 h4 => ask_cv hki2 K l H oka hcv J m G okb va vha vb vhb u h1 h2 h3 h4
            have as2 := fun u x xh y yh h1 h2 h3 h4 => ask_cv hki2 K _ _ oka' hcv' J _ _ okb' x xh y yh u h1 h2 h3 h4
            rw [hmt] at as2
            have vs1 := fun u hu hu' => varyShapeR_c KK S DX DY t0 t2 t3 K l H hVa va vha u hu hu'
            have vs2 := fun u hu hu' => varyShapeR_c KK S DX DY t0 t2 t3 J m G hVb vb vhb u hu hu'
            clear hmt oka oka' okb okb' hVa hVb hcv hcv' t0 t2 t3 t4 hki hl0 hH0 hl1 hm0 hG0 hm1 hK0
            obtain ⟨r, hr⟩ : ∃ r, hdV K l J m G = r := ⟨_, rfl⟩
            simp only [hr] at as1 as2
            clear hr
            generalize mtV K l H J m G = q1 at *
            generalize mtV K (vsl KK S DX DY K l) (H.map fun x => x.map (tpt KK S DX DY)) J (vsl KK S DX DY J m) (G.map fun x => x.map (tpt KK S DX DY)) = q2 at *
            generalize vsl KK S DX DY K l = l2 at *
            generalize vsl KK S DX DY J m = m2 at *
            generalize (H.map fun x => x.map (tpt KK S DX DY)) = H2 at *
            generalize (G.map fun x => x.map (tpt KK S DX DY)) = G2 at *
            have c0 := st5.cell 1 rfl 0
            have c1 := st5.cell 1 rfl 1
            have c2 := st5.cell 1 rfl 2
            simp only [List.getElem?_toArray, List.getElem?_cons_zero, List.getElem?_cons_succ] at c0 c1 c2
            have d0 := st5.cell 0 rfl 0
            have d1 := st5.cell 0 rfl 1
            have d2 := st5.cell 0 rfl 2
            simp only [List.getElem?_toArray, List.getElem?_cons_zero, List.getElem?_cons_succ] at d0 d1 d2
            go_wp2_with (go_at_call 22; refine JR.StopM.out ?_)
            refine ⟨?_⟩
            refine (as1 _ a5 ah5 b5 bh5).mono ?_
            rintro e w6 ⟨rfl, hb⟩
            have st6 := st5.ext hb
            have a6 := a5.below hb
            have ah6 := ah5.below hb
            have b6 := b5.below hb
            have bh6 := bh5.below hb
            clear hb st5 a5 ah5 b5 bh5 as1 c0 c1 c2 d0 d1 d2
            go_wp2
            refine wp_region_K [] [.val (.agg #[.int .u8 KK, .int .i64 S, .int .i64 DX, .int .i64 DY]), .val (.agg #[.int .i64 K, va, vha]), .shp K l2 H2, .val (.agg #[.int .u8 KK, .int .i64 S, .int .i64 DX, .int .i64 DY]), .val (.agg #[.int .i64 J, vb, vhb]), .shp J m2 G2, .val (.int .u8 KD), .val (.int .u8 ki), .val (.int .i64 ki), .val (.tuple #[.bool r, .bool q2]), .val (.tuple #[.bool r, .bool q2]), .val (.bool r), .val (.bool q2), .val (.bool r), .val (.bool q2)]
              [[.ini 4], [.ini 5], [.frm 0 45, .frm 1 46], [.ini 4], [.ini 6], [.frm 3 48, .frm 4 49], [.ini 3], [.frm 6 51], [.frm 7 52], [.frm 2 47, .frm 5 50, .frm 8 53], [.frm 9 54], [.frm 10 44], [.frm 10 44], [.frm 11 55], [.frm 12 56]]
              mixed (by kernel_rfl) (by kernel_rfl) (allPre_of ⟨trivial, trivial, trivial, trivial, trivial, trivial, trivial, trivial, trivial, trivial, trivial, trivial, trivial, trivial, trivial, trivial⟩)
              ⟨OpOk.quiet rfl ?_, OpOk.quiet rfl ?_, OpOk.call rfl ?_, OpOk.quiet rfl ?_, OpOk.quiet rfl ?_, OpOk.call rfl ?_, OpOk.quiet rfl ?_, OpOk.quiet rfl ?_, OpOk.quiet rfl ?_, OpOk.call rfl ?_, OpOk.quiet rfl ?_, OpOk.quiet rfl ?_, OpOk.quiet rfl ?_, OpOk.quiet rfl ?_, OpOk.quiet rfl ?_, trivial⟩ ?_
            · intro a u hG hf
              simp [facts, Need.fact, Ent.val, Act.eval] at hf
              have stu := st6.keep hG (fun i x _ => by simp) (fun x hx => by simp at hx)
              have y0 := stu.cell 2 rfl 0
              have y1 := stu.cell 2 rfl 1
              have y2 := stu.cell 2 rfl 2
              have y3 := stu.cell 2 rfl 3
              simp only [List.getElem?_toArray, List.getElem?_cons_zero, List.getElem?_cons_succ] at y0 y1 y2 y3
              go_simp
            · intro a u hG hf
              simp [facts, Need.fact, Ent.val, Act.eval] at hf
              have stu := st6.keep hG (fun i x _ => by simp) (fun x hx => by simp at hx)
              have y0 := stu.cell 1 rfl 0
              have y1 := stu.cell 1 rfl 1
              have y2 := stu.cell 1 rfl 2
              simp only [List.getElem?_toArray, List.getElem?_cons_zero, List.getElem?_cons_succ] at y0 y1 y2
              go_simp
            · intro a u hG hf
              simp [facts, Need.fact, Ent.val, Act.eval] at hf
              refine ⟨_, _, by go_simp, (vs1 u (a6.below hG.below) (ah6.below hG.below)).mono ?_⟩
              rintro e w' ⟨x, y, rfl, g1, g2, hb⟩
              exact ⟨_, rfl, hb, x, y, rfl, g1, g2⟩
            · intro a u hG hf
              simp [facts, Need.fact, Ent.val, Act.eval] at hf
              have stu := st6.keep hG (fun i x _ => by simp) (fun x hx => by simp at hx)
              have y0 := stu.cell 2 rfl 0
              have y1 := stu.cell 2 rfl 1
              have y2 := stu.cell 2 rfl 2
              have y3 := stu.cell 2 rfl 3
              simp only [List.getElem?_toArray, List.getElem?_cons_zero, List.getElem?_cons_succ] at y0 y1 y2 y3
              go_simp
            · intro a u hG hf
              simp [facts, Need.fact, Ent.val, Act.eval] at hf
              have stu := st6.keep hG (fun i x _ => by simp) (fun x hx => by simp at hx)
              have y0 := stu.cell 0 rfl 0
              have y1 := stu.cell 0 rfl 1
              have y2 := stu.cell 0 rfl 2
              simp only [List.getElem?_toArray, List.getElem?_cons_zero, List.getElem?_cons_succ] at y0 y1 y2
              go_simp
            · intro a u hG hf
              simp [facts, Need.fact, Ent.val, Act.eval] at hf
              refine ⟨_, _, by go_simp, (vs2 u (b6.below hG.below) (bh6.below hG.below)).mono ?_⟩
              rintro e w' ⟨x, y, rfl, g1, g2, hb⟩
              exact ⟨_, rfl, hb, x, y, rfl, g1, g2⟩
            · intro a u _ hf
              simp [facts, Need.fact, Ent.val, Act.eval] at hf
              go_simp
            · intro a u _ hf
              simp [facts, Need.fact, Ent.val, Act.eval] at hf
              go_simp
            · intro a u _ hf
              simp [facts, Need.fact, Ent.val, Act.eval] at hf
              go_simp
            · intro a u hG hf
              obtain ⟨⟨_, _, x, y, hx, g1, g2⟩, ⟨_, _, x', y', hx', g3, g4⟩, ⟨_, _, h45⟩, -⟩ := hf
              have e1 : a.eval (.tmp 47) = .agg #[.int .i64 K, x, y] := hx
              have e2 : a.eval (.tmp 50) = .agg #[.int .i64 J, x', y'] := hx'
              have e3 : a.eval (.tmp 53) = .int .i64 ki := h45
              clear hx hx' h45
              simp [Act.eval] at e1 e2 e3
              refine ⟨_, _, by go_simp, (as2 u x y x' y' g1.p g2.h g3.p g4.h).mono ?_⟩
              rintro e w' ⟨rfl, hb⟩
              exact ⟨_, rfl, hb, rfl⟩
            · intro a u _ hf
              simp [facts, Need.fact, Ent.val, Act.eval] at hf
              go_simp
            · intro a u _ hf
              simp [facts, Need.fact, Ent.val, Act.eval] at hf
              go_simp
            · intro a u _ hf
              simp [facts, Need.fact, Ent.val, Act.eval] at hf
              go_simp
            · intro a u _ hf
              simp [facts, Need.fact, Ent.val, Act.eval] at hf
              go_simp
            · intro a u _ hf
              simp [facts, Need.fact, Ent.val, Act.eval] at hf
              go_simp
            intro u lw hw wd hKp hE hI hD
            simp only [allE, Ent.val] at hE
            obtain ⟨u0, u1, -, u3, u4, -, u6, u7, u8, u9, u10, u11, u12, u13, u14, -⟩ := hE
            simp only [Nat.reduceAdd] at u0 u1 u3 u4 u6 u7 u8 u9 u10 u11 u12 u13 u14
            simp only [allPut, Act.put, Nat.reduceAdd, u0, u1, u3, u4, u6, u7, u8, u9, u10, u11, u12, u13, u14]
            try simp only [List.setIfInBounds_toArray, List.set_cons_zero, List.set_cons_succ]
            clear hI hD vs1 vs2 as2 u0 u1 u3 u4 u6 u7 u8 u9 u10 u11 u12 u13 u14
            have st7 := st6.keep hKp (fun i x _ => by simp) (fun x hx => by simp at hx)
            generalize u 2 = y2 at *
            generalize u 5 = y5 at *
            clear hKp st6 a6 ah6 b6 bh6
            cases r <;>
            · go_wp2_with (go_at_call 14; refine JR.StopM.out ?_)
              refine ⟨?_⟩
              refine (awake_c _).mono ?_
              rintro e wA ⟨rfl, hbA⟩
              have stA := st7.ext hbA
              go_wp2
              go_ret
              exact ⟨rfl, stA.hb⟩
end Go.Proofs.YtbfanhdofopnnaaGreat
