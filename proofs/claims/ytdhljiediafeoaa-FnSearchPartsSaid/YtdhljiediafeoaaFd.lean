import Derived.Test.YtdhljiediafeoaaFc
import Derived.Test.YtdhljiediafeoaaAwake
set_option linter.unusedSimpArgs false
set_option linter.unusedVariables false
/-! FnSearchParts: the walk. -/
namespace Go.Proofs.Ytdhljiediafeoaa
open Go.RowKit PF JR
theorem wrapS (n : Int) (h0 : -9223372036854775808 ≤ n) (h1 : n < 9223372036854775808) : IntKind.i64.wrap n = n := by
  unfold IntKind.wrap
  simp [IntKind.bits, IntKind.signed]
  omega
theorem okP_bd {l : List (Int × Int)} (h : l.all okP = true) : ∀ p ∈ l, -1024 ≤ p.1 ∧ p.1 ≤ 1024 ∧ -1024 ≤ p.2 ∧ p.2 ≤ 1024 := by
  intro p hp
  have := List.all_eq_true.1 h p hp
  simpa [okP] using this
theorem hits_len (closed : Bool) (l : List (Int × Int)) (r : Int × Int × Int × Int) : (hitsN r l (nSeg closed l)).length ≤ l.length := Nat.le_trans (hits_le _ _ _) (nseg_le closed l)
theorem SlN.below {lo : Nat} {w w' : World} {v : Value} {L : List Nat} (H : SlN lo w.heap.size w v L) (h : Below w.heap.size w w') : SlN lo w'.heap.size w' v L :=
  (H.keep fun b _ h2 => h.block b h2).wide (Nat.le_refl _) h.size
/-- the search with room for all -/
theorem search100 (closed : Bool) (K : Nat) (hK : K ≤ 2) (l : List (Int × Int)) (hl : l.length ≤ 12) (h2l : 2 ≤ l.length) (hbd : ∀ p ∈ l, Bnd p) (a b c d : Int) (hr : BdR (a, b, c, d)) (v : Value) (w : World) (hv : SlP w v l) :
    Calls Try.prog 7 #[v, .bool closed, .int .i64 K, .int .i64 2, .agg #[.int .i64 a, .int .i64 b, .int .i64 c, .int .i64 d], .int .i64 100] w
      fun e w' => ∃ A n, e = .returned (.slice A (hitsN (a, b, c, d) l (nSeg closed l)).length n) ∧ SlN 0 w'.heap.size w' (.slice A (hitsN (a, b, c, d) l (nSeg closed l)).length n) (hitsN (a, b, c, d) l (nSeg closed l)) ∧ Below w.heap.size w w' := by
  refine (searchIn_c closed K hK 100 (by decide) l hl h2l hbd (a, b, c, d) hr v w hv).mono ?_
  rintro e w' ⟨v', rfl, h1, h2⟩
  rw [List.take_of_length_le (by have := hits_len closed l (a, b, c, d); omega)] at h1
  have h3 := h1.wide (Nat.zero_le _) (Nat.le_refl _)
  obtain ⟨A, n, rfl, -⟩ := h1
  exact ⟨A, n, rfl, h3, h2⟩
set_option maxRecDepth 100000 in
set_option maxHeartbeats 8000000 in
theorem searchParts_c (X0 Y0 X1 Y1 C AT : Int) (KD : Nat) (bk : Bool) (hKD : KD ≤ 255) (l : List (Int × Int)) (v : Value) (w : World) (hv : SlP w v l) (hl0 : l.length ≤ 9223372036854775807) :
    Calls Try.prog 3 #[v, .agg #[.int .i64 X0, .int .i64 Y0, .int .i64 X1, .int .i64 Y1], .int .i64 C, .agg #[.int .u8 AT, .bool bk, .int .u8 KD]] w fun e w' => e = .returned (.bool true) ∧ Below w.heap.size w w' := by
  have st0 := ((Blk.nil w).push rfl #[.int .i64 X0, .int .i64 Y0, .int .i64 X1, .int .i64 Y1] 25).push (b := w.heap.size + 1) (by simp) #[.int .u8 AT, .bool bk, .int .u8 KD] 27
  have s0 := hv.below st0.hb
  obtain ⟨A0, c0, rfl⟩ : ∃ A c, v = .slice A l.length c := by obtain ⟨A, c, h, -⟩ := hv; exact ⟨A, c, h⟩
  clear hv
  rcases Nat.lt_or_ge 2147483647 l.length with hbig | l1
  · have hbig' : (2147483647 : Int) < (l.length : Int) := by omega
    generalize l.length = n at *
    go_enter Try.func3, Try.ntmps3
    go_wp2
    go_ret
    exact ⟨rfl, st0.hb⟩
  have l2 : ¬ (2147483647 : Int) < (l.length : Int) := by omega
  have a0 := st0.cell 0 rfl 0
  have a1 := st0.cell 0 rfl 1
  have a2 := st0.cell 0 rfl 2
  simp only [List.getElem?_toArray, List.getElem?_cons_zero, List.getElem?_cons_succ] at a0 a1 a2
  have hvp := fun u h => varyPoints_c l 2 12 l1 (.slice A0 l.length c0) u h
  generalize hvo : decide ((2 : Int) ≤ l.length ∧ (l.length : Int) ≤ 12 ∧ l.all okP = true) = vo at *
  go_enter Try.func3, Try.ntmps3
  go_upto_region 3 with (fail)
  go_quiet (fail)
  go_wp2_with (go_at_call 4; refine JR.StopM.out ?_)
  refine ⟨?_⟩
  refine (hvp _ (s0.below (below_drewN (Below.refl _ _) nq))).mono ?_
  rintro e w1 ⟨rfl, hb⟩
  have st1 := (st0.drewK nq).ext hb
  have s1 := (s0.below (below_drewN (Below.refl _ _) nq)).below hb
  clear hb st0 s0 hvp a0 a1 a2
  have b0 := st1.cell 1 rfl 0
  have b2 := st1.cell 1 rfl 2
  simp only [List.getElem?_toArray, List.getElem?_cons_zero, List.getElem?_cons_succ] at b0 b2
  cases vo with
  | false =>
    clear hvo
    go_wp2_with (go_at_call 6; refine JR.StopM.out ?_)
    refine ⟨?_⟩
    refine (awake_c _).mono ?_
    rintro e wA ⟨rfl, hbA⟩
    have stA := st1.ext hbA
    go_wp2
    go_ret
    exact ⟨rfl, stA.hb⟩
  | true =>
    have hvo := of_decide_eq_true hvo
    have hiv := isVary_c (.slice (some ⟨w.heap.size, 0, none⟩) 2 2) X0 Y0 X1 Y1 w1 (st1.slp2 1 rfl)
    generalize hiO : (okP (X0, Y0) && okP (X1, Y1) && decide (X0 < X1) && decide (Y0 < Y1)) = io at *
    clear b0 b2
    go_wp2_with (go_at_call 5; refine JR.StopM.out ?_)
    refine ⟨?_⟩
    refine hiv.mono ?_
    rintro e w2 ⟨rfl, hb⟩
    have st2 := st1.ext hb
    have s2 := s1.below hb
    clear hb st1 s1 hiv
    have b0 := st2.cell 1 rfl 0
    have b1 := st2.cell 1 rfl 1
    have b2 := st2.cell 1 rfl 2
    have b3 := st2.cell 1 rfl 3
    simp only [List.getElem?_toArray, List.getElem?_cons_zero, List.getElem?_cons_succ] at b0 b1 b2 b3
    cases io with
    | false =>
      clear hiO
      go_wp2_with (go_at_call 6; refine JR.StopM.out ?_)
      refine ⟨?_⟩
      refine (awake_c _).mono ?_
      rintro e wA ⟨rfl, hbA⟩
      have stA := st2.ext hbA
      go_wp2
      go_ret
      exact ⟨rfl, stA.hb⟩
    | true =>
      rcases Decidable.em (C < X0) with c1 | c1
      · clear hiO hvo
        go_wp2_with (go_at_call 6; refine JR.StopM.out ?_)
        refine ⟨?_⟩
        refine (awake_c _).mono ?_
        rintro e wA ⟨rfl, hbA⟩
        have stA := st2.ext hbA
        go_wp2
        go_ret
        exact ⟨rfl, stA.hb⟩
      rcases Decidable.em (X1 < C) with c2 | c2
      · clear hiO hvo
        go_wp2_with (go_at_call 6; refine JR.StopM.out ?_)
        refine ⟨?_⟩
        refine (awake_c _).mono ?_
        rintro e wA ⟨rfl, hbA⟩
        have stA := st2.ext hbA
        go_wp2
        go_ret
        exact ⟨rfl, stA.hb⟩
      obtain ⟨ki, hki, hki2⟩ : ∃ ki : Nat, KD % 3 = ki ∧ ki ≤ 2 := ⟨KD % 3, rfl, by omega⟩
      have hrem : (KD : Int).tmod 3 = (ki : Int) := by rw [Int.tmod_eq_emod_of_nonneg (by omega)]; omega
      clear hki
      have wk1 : IntKind.i64.wrap (ki : Int) = (ki : Int) := wrapS _ (by omega) (by omega)
      have hio : -1024 ≤ X0 ∧ X0 ≤ 1024 ∧ -1024 ≤ Y0 ∧ Y0 ≤ 1024 ∧ -1024 ≤ X1 ∧ X1 ≤ 1024 ∧ -1024 ≤ Y1 ∧ Y1 ≤ 1024 := by
        simp [okP] at hiO
        omega
      have hbl : ∀ p ∈ l, Bnd p := fun p hp => by have := okP_bd hvo.2.2 p hp; unfold Bnd; omega
      have h2l : 2 ≤ l.length := by omega
      have hl12 : l.length ≤ 12 := by omega
      have hbr : BdR (X0, Y0, X1, Y1) := by unfold BdR Bd4; dsimp only; omega
      have q1 := fun u h => search100 bk ki hki2 l hl12 h2l hbl X0 Y0 X1 Y1 hbr (.slice A0 l.length c0) u h
      have q2 := fun u h => search100 bk ki hki2 l hl12 h2l hbl X0 Y0 C Y1 (by unfold BdR Bd4; dsimp only; omega) (.slice A0 l.length c0) u h
      have q3 := fun u h => search100 bk ki hki2 l hl12 h2l hbl C Y0 X1 Y1 (by unfold BdR Bd4; dsimp only; omega) (.slice A0 l.length c0) u h
      have q4 := fun m hm u h => searchIn_c bk ki hki2 m hm l hl12 h2l hbl (X0, Y0, X1, Y1) hbr (.slice A0 l.length c0) u h
      have hph := fun i => parts_has X0 Y0 X1 Y1 C l (nSeg bk l) i (by omega) (by omega)
      have m1 := hits_len bk l (X0, Y0, X1, Y1)
      have m2 := hits_len bk l (X0, Y0, C, Y1)
      have m3 := hits_len bk l (C, Y0, X1, Y1)
      dsimp only at q4
      generalize hitsN (X0, Y0, X1, Y1) l (nSeg bk l) = L1 at *
      generalize hitsN (X0, Y0, C, Y1) l (nSeg bk l) = L2 at *
      generalize hitsN (C, Y0, X1, Y1) l (nSeg bk l) = L3 at *
      clear hio hiO hvo hbl hbr
      go_wp2_with (go_at_call 7; refine JR.StopM.out ?_)
      refine ⟨?_⟩
      refine (q1 _ s2).mono ?_
      rintro e w3 ⟨Aa, na, rfl, g1, hb⟩
      have st3 := st2.ext hb
      have s3 := s2.below hb
      clear hb st2 s2 q1 b0 b1 b2 b3
      have b0 := st3.cell 1 rfl 0
      have b1 := st3.cell 1 rfl 1
      have b2 := st3.cell 1 rfl 2
      have b3 := st3.cell 1 rfl 3
      simp only [List.getElem?_toArray, List.getElem?_cons_zero, List.getElem?_cons_succ] at b0 b1 b2 b3
      go_wp2_with (go_at_call 7; refine JR.StopM.out ?_)
      refine ⟨?_⟩
      refine (q2 _ s3).mono ?_
      rintro e w4 ⟨Ab, nb, rfl, g2, hb⟩
      have st4 := st3.ext hb
      have s4 := s3.below hb
      have g14 := SlN.below g1 hb
      clear hb st3 s3 q2 b0 b1 b2 b3 g1
      have b0 := st4.cell 1 rfl 0
      have b1 := st4.cell 1 rfl 1
      have b2 := st4.cell 1 rfl 2
      have b3 := st4.cell 1 rfl 3
      simp only [List.getElem?_toArray, List.getElem?_cons_zero, List.getElem?_cons_succ] at b0 b1 b2 b3
      go_wp2_with (go_at_call 7; refine JR.StopM.out ?_)
      refine ⟨?_⟩
      refine (q3 _ s4).mono ?_
      rintro e w5 ⟨Ac, nc, rfl, g3, hb⟩
      have st5 := st4.ext hb
      have s5 := s4.below hb
      have g15 := SlN.below g14 hb
      have g25 := SlN.below g2 hb
      clear hb st4 s4 q3 b0 b1 b2 b3 g14 g2
      go_wp2
      go_loopw [85] (fun j wr => ∃ k : Nat, k ≤ l.length ∧ j = .int .i64 k ∧ Below w5.heap.size w5 wr) (fun j _ => l.length - (intOf j).toNat)
      case atStart => exact ⟨0, Nat.zero_le _, rfl, Below.refl _ _⟩
      case round =>
        obtain ⟨k, hkl, rfl, hB⟩ := hrel
        rcases Nat.lt_or_ge k l.length with hlt | hge
        · have hlt' : (k : Int) < (l.length : Int) := by omega
          have g1r := SlN.below g15 hB
          have g2r := SlN.below g25 hB
          have g3r := SlN.below g3 hB
          have x1 := fun u (h : SlN 0 u.heap.size u (.slice Aa L1.length na) L1) => has_c L1 (by omega) k 0 u.heap.size (.slice Aa L1.length na) u h
          have hphk := hph k
          have x2 := fun u (h : SlN 0 u.heap.size u (.slice Ab L2.length nb) L2) => has_c L2 (by omega) k 0 u.heap.size (.slice Ab L2.length nb) u h
          have x3 := fun u (h : SlN 0 u.heap.size u (.slice Ac L3.length nc) L3) => has_c L3 (by omega) k 0 u.heap.size (.slice Ac L3.length nc) u h
          generalize decide (L1.count k = 1) = d1 at *
          generalize decide (L2.count k = 1) = d2 at *
          generalize decide (L3.count k = 1) = d3 at *
          subst hphk
          go_wp2_with (go_at_call 8; refine JR.StopM.out ?_)
          refine ⟨?_⟩
          refine (x1 _ g1r).mono ?_
          rintro e y1 ⟨rfl, hb⟩
          have hB1 := hB.trans (hb.mono hB.size)
          have g2y := SlN.below g2r hb
          have g3y := SlN.below g3r hb
          clear hb x1 g1r g2r g3r
          go_wp2_with (go_at_call 8; refine JR.StopM.out ?_)
          refine ⟨?_⟩
          refine (x2 _ g2y).mono ?_
          rintro e y2 ⟨rfl, hb⟩
          have hB2 := hB1.trans (hb.mono hB1.size)
          have g3z := SlN.below g3y hb
          clear hb x2 g2y g3y
          cases d2 with
          | true =>
            go_wp2
            exact ⟨⟨k + 1, hlt, rfl, hB2⟩, by simp only [intOf]; omega⟩
          | false =>
            go_wp2_with (go_at_call 8; refine JR.StopM.out ?_)
            refine ⟨?_⟩
            refine (x3 _ g3z).mono ?_
            rintro e y3 ⟨rfl, hb⟩
            have hB3 := hB2.trans (hb.mono hB2.size)
            clear hb x3 g3z
            cases d3 with
            | true =>
              go_wp2
              exact ⟨⟨k + 1, hlt, rfl, hB3⟩, by simp only [intOf]; omega⟩
            | false =>
              go_wp2
              exact ⟨⟨k + 1, hlt, rfl, hB3⟩, by simp only [intOf]; omega⟩
        · obtain rfl : k = l.length := by omega
          clear hph g25 g3
          go_wp2
          go_loopw [17] (fun j wr => ∃ m : Nat, 1 ≤ m ∧ m ≤ L1.length + 1 ∧ j = .int .i64 m ∧ Below w5.heap.size w5 wr) (fun j _ => L1.length + 1 - (intOf j).toNat)
          case atStart => exact ⟨1, Nat.le_refl _, by omega, rfl, hB⟩
          case round =>
            clear hB
            obtain ⟨m, hm1, hm2, rfl, hB⟩ := hrel
            rcases Nat.lt_or_ge L1.length m with hgt | hle
            · have hgt' : ¬ (m : Int) ≤ (L1.length : Int) := by omega
              have st6 := st5.ext hB
              go_wp2_with (go_at_call 6; refine JR.StopM.out ?_)
              refine ⟨?_⟩
              refine (awake_c _).mono ?_
              rintro e wA ⟨rfl, hbA⟩
              have stA := st6.ext hbA
              go_wp2
              go_ret
              exact ⟨rfl, stA.hb⟩
            · have hle' : (m : Int) ≤ (L1.length : Int) := by omega
              have st6 := st5.ext hB
              have s6 := s5.below hB
              have g6 := SlN.below g15 hB
              have b0 := st6.cell 1 rfl 0
              have b1 := st6.cell 1 rfl 1
              have b2 := st6.cell 1 rfl 2
              have b3 := st6.cell 1 rfl 3
              simp only [List.getElem?_toArray, List.getElem?_cons_zero, List.getElem?_cons_succ] at b0 b1 b2 b3
              go_wp2_with (go_at_call 7; refine JR.StopM.out ?_)
              refine ⟨?_⟩
              refine (q4 m hm1 _ s6).mono ?_
              rintro e w6 ⟨v6, rfl, gs, hb⟩
              have hB6 := hB.trans (hb.mono hB.size)
              have g7 := SlN.below g6 hb
              have htl : (L1.take m).length = m := by rw [List.length_take]; omega
              obtain ⟨Ad, nd, rfl, hd⟩ := gs
              obtain ⟨Ae, ne, hae, he⟩ := g7
              obtain ⟨rfl, -, rfl⟩ : Aa = Ae ∧ L1.length = L1.length ∧ na = ne := by simpa using hae
              rw [htl]
              clear hb st6 s6 g6 b0 b1 b2 b3 hae
              go_wp2
              go_loopw [122] (fun j wr => ∃ k : Nat, k ≤ m ∧ j = .int .i64 k ∧ Below w6.heap.size w6 wr) (fun j _ => m - (intOf j).toNat)
              case atStart => exact ⟨0, Nat.zero_le _, rfl, Below.refl _ _⟩
              case round =>
                obtain ⟨k, hkm, rfl, hC⟩ := hrel
                rcases Nat.lt_or_ge k m with hlt | hge2
                · obtain ⟨p, hp⟩ : ∃ p, L1[k]? = some p := ⟨L1[k], by simp [show k < L1.length by omega]⟩
                  have hp2 : (L1.take m)[k]? = some p := by rw [List.getElem?_take]; simp [hlt, hp]
                  obtain ⟨bd, rfl, -, -, h1⟩ := hd k p hp2
                  obtain ⟨be, rfl, -, -, h2⟩ := he k p hp
                  have z1 := (hC.cell (World.block_lt_of_cell? w6 _ h1)).trans h1
                  have z2 := (hC.cell (World.block_lt_of_cell? w6 _ h2)).trans h2
                  unfold iv at z1 z2
                  have hlt' : (k : Int) < (m : Int) := by omega
                  have hlt2 : (k : Int) < (L1.length : Int) := by omega
                  clear hd he h1 h2
                  go_upto_region 26 with (fail)
                  go_quiet (fail)
                  go_wp2
                  exact ⟨⟨k + 1, hlt, rfl, below_drewN hC _⟩, by simp only [intOf]; omega⟩
                · obtain rfl : k = m := by omega
                  go_wp2
                  exact ⟨⟨k + 1, by omega, by omega, rfl, hB6.trans (hC.mono hB6.size)⟩, by simp only [intOf]; omega⟩
end Go.Proofs.Ytdhljiediafeoaa
