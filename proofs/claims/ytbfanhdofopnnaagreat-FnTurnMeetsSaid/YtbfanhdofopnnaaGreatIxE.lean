import Derived.Test.YtbfanhdofopnnaaGreatIxA
set_option linter.unusedSimpArgs false
set_option linter.unusedVariables false
namespace Go.Proofs.YtbfanhdofopnnaaGreat
open Go.RowKit PF JR

set_option maxHeartbeats 4000000 in
set_option maxRecDepth 100000 in
theorem six_e {ax ay bx bY cx cy dx dy : Nat} {Ax Ay Bx By Cx Cy Dx Dy : Int} (hax : Rep ax Ax) (hay : Rep ay Ay) (hbx : Rep bx Bx) (hby : Rep bY By) (hcx : Rep cx Cx) (hcy : Rep cy Cy) (hdx : Rep dx Dx) (hdy : Rep dy Dy)
    (b1 : -12288 ≤ Ax ∧ Ax ≤ 12288 ∧ -12288 ≤ Ay ∧ Ay ≤ 12288 ∧ -12288 ≤ Bx ∧ Bx ≤ 12288 ∧ -12288 ≤ By ∧ By ≤ 12288) (b2 : -12288 ≤ Cx ∧ Cx ≤ 12288 ∧ -12288 ≤ Cy ∧ Cy ≤ 12288 ∧ -12288 ≤ Dx ∧ Dx ≤ 12288 ∧ -12288 ≤ Dy ∧ Dy ≤ 12288) (hy : ¬ ((Ay < Cy ∧ Ay < Dy ∧ By < Cy ∧ By < Dy) ∨ (Cy < Ay ∧ Cy < By ∧ Dy < Ay ∧ Dy < By))) (hx : ¬ ((Ax < Cx ∧ Ax < Dx ∧ Bx < Cx ∧ Bx < Dx) ∨ (Cx < Ax ∧ Cx < Bx ∧ Dx < Ax ∧ Dx < Bx))) (hE : ((Ax = Cx ∧ Ay = Cy) ∨ (Ax = Dx ∧ Ay = Dy) ∨ (Bx = Cx ∧ By = Cy) ∨ (Bx = Dx ∧ By = Dy))) (w : World) :
    Calls Tryz.prog 60 #[.agg #[fl ax, fl ay, fl bx, fl bY], .agg #[fl cx, fl cy, fl dx, fl dy]] w (SisX Ax Ay Bx By Cx Cy Dx Dy w) := by
  have hsx := sx_e hy hx hE
  have st0 := ((Blk.nil w).push rfl #[fl ax, fl ay, fl bx, fl bY] 100).push (b := w.heap.size + 1) (by simp) #[fl cx, fl cy, fl dx, fl dy] 100
  have zt0 := st0.cell 0 rfl 0
  have zt1 := st0.cell 0 rfl 1
  have zt2 := st0.cell 0 rfl 2
  have zt3 := st0.cell 0 rfl 3
  have zs0 := st0.cell 1 rfl 0
  have zs1 := st0.cell 1 rfl 1
  have zs2 := st0.cell 1 rfl 2
  have zs3 := st0.cell 1 rfl 3
  simp only [List.getElem?_toArray, List.getElem?_cons_zero, List.getElem?_cons_succ] at zt0 zt1 zt2 zt3 zs0 zs1 zs2 zs3
  go_enter Tryz.func60, Tryz.ntmps60
  go_wp2
  refine wp_region_K [] [.val (.pointer (some ⟨w.heap.size, 0, none⟩)),
      .val (.agg #[fl ax, fl ay]),
      .val (.pointer (some ⟨w.heap.size, 2, none⟩)),
      .val (.agg #[fl bx, fl bY]),
      .val (.pointer (some ⟨w.heap.size + 1, 0, none⟩)),
      .val (.agg #[fl cx, fl cy]),
      .val (.pointer (some ⟨w.heap.size + 1, 2, none⟩)),
      .val (.agg #[fl dx, fl dy]),
      .made 74 2,
      .made 74 2,
      .made 74 2,
      .made 74 2,
      .filled 5 #[fl ax, fl ay] 74,
      .filled 6 #[fl bx, fl bY] 74,
      .filled 7 #[fl cx, fl cy] 74,
      .filled 8 #[fl dx, fl dy] 74]
    [[.ini 2], [.frm 0 21], [.ini 2], [.frm 2 23], [.ini 3], [.frm 4 25], [.ini 3], [.frm 6 27], [], [], [], [], [.frm 8 5, .frm 1 22], [.frm 9 6, .frm 3 24], [.frm 10 7, .frm 5 26], [.frm 11 8, .frm 7 28]]
    mixed (by kernel_rfl) (by kernel_rfl) (allPre_of ⟨trivial, trivial, trivial, trivial, trivial, trivial, trivial, trivial, trivial, trivial, trivial, trivial, trivial, trivial, trivial, trivial, trivial⟩)
    ⟨OpOk.quiet rfl ?_,
      OpOk.quiet rfl ?_,
      OpOk.quiet rfl ?_,
      OpOk.quiet rfl ?_,
      OpOk.quiet rfl ?_,
      OpOk.quiet rfl ?_,
      OpOk.quiet rfl ?_,
      OpOk.quiet rfl ?_,
      OpOk.made (cs := #[fl 0, fl 0]) rfl rfl ?_,
      OpOk.made (cs := #[fl 0, fl 0]) rfl rfl ?_,
      OpOk.made (cs := #[fl 0, fl 0]) rfl rfl ?_,
      OpOk.made (cs := #[fl 0, fl 0]) rfl rfl ?_,
      OpOk.fillRow (k := 8) rfl rfl (by kernel_rfl) rfl (oldLt_of ⟨(fun _ h => (nomatch h)), (fun _ h => (nomatch h)), (fun _ h => (nomatch h)), (fun _ h => (nomatch h)), (fun _ h => (nomatch h)), (fun _ h => (nomatch h)), (fun _ h => (nomatch h)), (fun _ h => (nomatch h)), (fun _ h => (nomatch h)), (fun _ h => (nomatch h)), (fun _ h => (nomatch h)), (fun _ h => (nomatch h)), (fun _ h => (nomatch h)), (fun _ h => (nomatch h)), (fun _ h => (nomatch h)), (fun _ h => (nomatch h)), trivial⟩) (by kernel_rfl) (by simp [Value.oneCell']) (fun a w hf => ⟨hf.1, hf.2.1.elim fun _ h => h.elim fun _ h => h⟩) (fun _ _ _ h hb => Keep.setRow h (.inl hb)),
      OpOk.fillRow (k := 9) rfl rfl (by kernel_rfl) rfl (oldLt_of ⟨(fun _ h => (nomatch h)), (fun _ h => (nomatch h)), (fun _ h => (nomatch h)), (fun _ h => (nomatch h)), (fun _ h => (nomatch h)), (fun _ h => (nomatch h)), (fun _ h => (nomatch h)), (fun _ h => (nomatch h)), (fun _ h => (nomatch h)), (fun _ h => (nomatch h)), (fun _ h => (nomatch h)), (fun _ h => (nomatch h)), (fun _ h => (nomatch h)), (fun _ h => (nomatch h)), (fun _ h => (nomatch h)), (fun _ h => (nomatch h)), trivial⟩) (by kernel_rfl) (by simp [Value.oneCell']) (fun a w hf => ⟨hf.1, hf.2.1.elim fun _ h => h.elim fun _ h => h⟩) (fun _ _ _ h hb => Keep.setRow h (.inl hb)),
      OpOk.fillRow (k := 10) rfl rfl (by kernel_rfl) rfl (oldLt_of ⟨(fun _ h => (nomatch h)), (fun _ h => (nomatch h)), (fun _ h => (nomatch h)), (fun _ h => (nomatch h)), (fun _ h => (nomatch h)), (fun _ h => (nomatch h)), (fun _ h => (nomatch h)), (fun _ h => (nomatch h)), (fun _ h => (nomatch h)), (fun _ h => (nomatch h)), (fun _ h => (nomatch h)), (fun _ h => (nomatch h)), (fun _ h => (nomatch h)), (fun _ h => (nomatch h)), (fun _ h => (nomatch h)), (fun _ h => (nomatch h)), trivial⟩) (by kernel_rfl) (by simp [Value.oneCell']) (fun a w hf => ⟨hf.1, hf.2.1.elim fun _ h => h.elim fun _ h => h⟩) (fun _ _ _ h hb => Keep.setRow h (.inl hb)),
      OpOk.fillRow (k := 11) rfl rfl (by kernel_rfl) rfl (oldLt_of ⟨(fun _ h => (nomatch h)), (fun _ h => (nomatch h)), (fun _ h => (nomatch h)), (fun _ h => (nomatch h)), (fun _ h => (nomatch h)), (fun _ h => (nomatch h)), (fun _ h => (nomatch h)), (fun _ h => (nomatch h)), (fun _ h => (nomatch h)), (fun _ h => (nomatch h)), (fun _ h => (nomatch h)), (fun _ h => (nomatch h)), (fun _ h => (nomatch h)), (fun _ h => (nomatch h)), (fun _ h => (nomatch h)), (fun _ h => (nomatch h)), trivial⟩) (by kernel_rfl) (by simp [Value.oneCell']) (fun a w hf => ⟨hf.1, hf.2.1.elim fun _ h => h.elim fun _ h => h⟩) (fun _ _ _ h hb => Keep.setRow h (.inl hb)), trivial⟩ ?_
  · intro a u _ hf
    simp [facts, Need.fact, Act.eval] at hf
    go_simp
  · intro a u hG hf
    simp [facts, Need.fact, Ent.val, Act.eval] at hf
    have hc := True.intro
    have qt0 := (hG.cell (p := ⟨w.heap.size + 1, 0, none⟩) (st0.lt 0 rfl) (by simp)).trans zt0
    have qt1 := (hG.cell (p := ⟨w.heap.size + 1, 1, none⟩) (st0.lt 0 rfl) (by simp)).trans zt1
    have qt2 := (hG.cell (p := ⟨w.heap.size + 1, 2, none⟩) (st0.lt 0 rfl) (by simp)).trans zt2
    have qt3 := (hG.cell (p := ⟨w.heap.size + 1, 3, none⟩) (st0.lt 0 rfl) (by simp)).trans zt3
    have qs0 := (hG.cell (p := ⟨w.heap.size, 0, none⟩) (st0.lt 1 rfl) (by simp)).trans zs0
    have qs1 := (hG.cell (p := ⟨w.heap.size, 1, none⟩) (st0.lt 1 rfl) (by simp)).trans zs1
    have qs2 := (hG.cell (p := ⟨w.heap.size, 2, none⟩) (st0.lt 1 rfl) (by simp)).trans zs2
    have qs3 := (hG.cell (p := ⟨w.heap.size, 3, none⟩) (st0.lt 1 rfl) (by simp)).trans zs3

    go_simp
  · intro a u _ hf
    simp [facts, Need.fact, Act.eval] at hf
    go_simp
  · intro a u hG hf
    simp [facts, Need.fact, Ent.val, Act.eval] at hf
    have hc := True.intro
    have qt0 := (hG.cell (p := ⟨w.heap.size + 1, 0, none⟩) (st0.lt 0 rfl) (by simp)).trans zt0
    have qt1 := (hG.cell (p := ⟨w.heap.size + 1, 1, none⟩) (st0.lt 0 rfl) (by simp)).trans zt1
    have qt2 := (hG.cell (p := ⟨w.heap.size + 1, 2, none⟩) (st0.lt 0 rfl) (by simp)).trans zt2
    have qt3 := (hG.cell (p := ⟨w.heap.size + 1, 3, none⟩) (st0.lt 0 rfl) (by simp)).trans zt3
    have qs0 := (hG.cell (p := ⟨w.heap.size, 0, none⟩) (st0.lt 1 rfl) (by simp)).trans zs0
    have qs1 := (hG.cell (p := ⟨w.heap.size, 1, none⟩) (st0.lt 1 rfl) (by simp)).trans zs1
    have qs2 := (hG.cell (p := ⟨w.heap.size, 2, none⟩) (st0.lt 1 rfl) (by simp)).trans zs2
    have qs3 := (hG.cell (p := ⟨w.heap.size, 3, none⟩) (st0.lt 1 rfl) (by simp)).trans zs3

    go_simp
  · intro a u _ hf
    simp [facts, Need.fact, Act.eval] at hf
    go_simp
  · intro a u hG hf
    simp [facts, Need.fact, Ent.val, Act.eval] at hf
    have hc := True.intro
    have qt0 := (hG.cell (p := ⟨w.heap.size + 1, 0, none⟩) (st0.lt 0 rfl) (by simp)).trans zt0
    have qt1 := (hG.cell (p := ⟨w.heap.size + 1, 1, none⟩) (st0.lt 0 rfl) (by simp)).trans zt1
    have qt2 := (hG.cell (p := ⟨w.heap.size + 1, 2, none⟩) (st0.lt 0 rfl) (by simp)).trans zt2
    have qt3 := (hG.cell (p := ⟨w.heap.size + 1, 3, none⟩) (st0.lt 0 rfl) (by simp)).trans zt3
    have qs0 := (hG.cell (p := ⟨w.heap.size, 0, none⟩) (st0.lt 1 rfl) (by simp)).trans zs0
    have qs1 := (hG.cell (p := ⟨w.heap.size, 1, none⟩) (st0.lt 1 rfl) (by simp)).trans zs1
    have qs2 := (hG.cell (p := ⟨w.heap.size, 2, none⟩) (st0.lt 1 rfl) (by simp)).trans zs2
    have qs3 := (hG.cell (p := ⟨w.heap.size, 3, none⟩) (st0.lt 1 rfl) (by simp)).trans zs3

    go_simp
  · intro a u _ hf
    simp [facts, Need.fact, Act.eval] at hf
    go_simp
  · intro a u hG hf
    simp [facts, Need.fact, Ent.val, Act.eval] at hf
    have hc := True.intro
    have qt0 := (hG.cell (p := ⟨w.heap.size + 1, 0, none⟩) (st0.lt 0 rfl) (by simp)).trans zt0
    have qt1 := (hG.cell (p := ⟨w.heap.size + 1, 1, none⟩) (st0.lt 0 rfl) (by simp)).trans zt1
    have qt2 := (hG.cell (p := ⟨w.heap.size + 1, 2, none⟩) (st0.lt 0 rfl) (by simp)).trans zt2
    have qt3 := (hG.cell (p := ⟨w.heap.size + 1, 3, none⟩) (st0.lt 0 rfl) (by simp)).trans zt3
    have qs0 := (hG.cell (p := ⟨w.heap.size, 0, none⟩) (st0.lt 1 rfl) (by simp)).trans zs0
    have qs1 := (hG.cell (p := ⟨w.heap.size, 1, none⟩) (st0.lt 1 rfl) (by simp)).trans zs1
    have qs2 := (hG.cell (p := ⟨w.heap.size, 2, none⟩) (st0.lt 1 rfl) (by simp)).trans zs2
    have qs3 := (hG.cell (p := ⟨w.heap.size, 3, none⟩) (st0.lt 1 rfl) (by simp)).trans zs3

    go_simp
  · intro a u _ _
    go_simp
  · intro a u _ _
    go_simp
  · intro a u _ _
    go_simp
  · intro a u _ _
    go_simp
  intro u lw hw wx hK hE hI hD
  simp [allE, allPut, Act.put, Act.eval, Ent.filledP, Ent.made, Ent.val] at hE
  obtain ⟨u0, u1, u2, u3, u4, u5, u6, u7, ⟨b8, u8, l8, h8, -⟩, ⟨b9, u9, l9, h9, -⟩, ⟨b10, u10, l10, h10, -⟩, ⟨b11, u11, l11, h11, -⟩, ⟨c12, v12, g12⟩, ⟨c13, v13, g13⟩, ⟨c14, v14, g14⟩, ⟨c15, v15, g15⟩⟩ := hE
  obtain rfl : b8 = c12 := by rw [u8] at v12; simpa using v12
  obtain rfl : b9 = c13 := by rw [u9] at v13; simpa using v13
  obtain rfl : b10 = c14 := by rw [u10] at v14; simpa using v14
  obtain rfl : b11 = c15 := by rw [u11] at v15; simpa using v15
  simp only [allPut, Act.put, u0, u1, u2, u3, u4, u5, u6, u7, u8, u9, u10, u11]
  clear u0 u1 u2 u3 u4 u5 u6 u7 u8 u9 u10 u11 v12 v13 v14 v15
  have st1 := ((((st0.keep hK (fun i x _ => by simp) (fun x hx => by simp at hx)).add g15).add g14).add g13).add g12
  clear zt0 zt1 zt2 zt3 zs0 zs1 zs2 zs3 hK hI hD g12 g13 g14 g15 st0 l8 l9 l10 l11 h8 h9 h10 h11
  have ka0 := st1.cell 0 rfl 0
  have ka1 := st1.cell 0 rfl 1
  have kb0 := st1.cell 1 rfl 0
  have kb1 := st1.cell 1 rfl 1
  have kc0 := st1.cell 2 rfl 0
  have kc1 := st1.cell 2 rfl 1
  have kd0 := st1.cell 3 rfl 0
  have kd1 := st1.cell 3 rfl 1
  have kt0 := st1.cell 4 rfl 0
  have kt1 := st1.cell 4 rfl 1
  have kt2 := st1.cell 4 rfl 2
  have kt3 := st1.cell 4 rfl 3
  have ks0 := st1.cell 5 rfl 0
  have ks1 := st1.cell 5 rfl 1
  have ks2 := st1.cell 5 rfl 2
  have ks3 := st1.cell 5 rfl 3
  simp only [List.getElem?_toArray, List.getElem?_cons_zero, List.getElem?_cons_succ] at ka0 ka1 kb0 kb1 kc0 kc1 kd0 kd1 kt0 kt1 kt2 kt3 ks0 ks1 ks2 ks3
  have hB := st1.hb
  have oaby := oR hay hby
  go_upto_if 33 with (fail)
  go_cut [] from 29 to 91 (fun wy => wy = wx)
  case first =>
    try clear hE
    try clear h1
    clear hx
    have ocdy := oR hcy hdy
    have oacy := oR hay hcy
    have oady := oR hay hdy
    have obcy := oR hby hcy
    have obdy := oR hby hdy
    by_cases p1 : By < Ay
    · have d1 := decide_eq_true p1
      by_cases p2 : Dy < Cy
      · have d2 := decide_eq_true p2
        have n3 : ¬ Cy < By := by omega
        have n4 : ¬ Ay < Dy := by omega
        have d3 := decide_eq_false n3
        have d4 := decide_eq_false n4
        clear hy
        go_wp2
        go_meet
        rfl
      · have d2 := decide_eq_false p2
        have n3 : ¬ Dy < By := by omega
        have n4 : ¬ Ay < Cy := by omega
        have d3 := decide_eq_false n3
        have d4 := decide_eq_false n4
        clear hy
        go_wp2
        go_meet
        rfl
    · have d1 := decide_eq_false p1
      by_cases p2 : Dy < Cy
      · have d2 := decide_eq_true p2
        have n3 : ¬ Cy < Ay := by omega
        have n4 : ¬ By < Dy := by omega
        have d3 := decide_eq_false n3
        have d4 := decide_eq_false n4
        clear hy
        go_wp2
        go_meet
        rfl
      · have d2 := decide_eq_false p2
        have n3 : ¬ Dy < Ay := by omega
        have n4 : ¬ By < Cy := by omega
        have d3 := decide_eq_false n3
        have d4 := decide_eq_false n4
        clear hy
        go_wp2
        go_meet
        rfl
  case rest =>
    subst hcut
    have oabx := oR hax hbx
    go_upto_if 96 with (fail)
    go_cut [] from 92 to 154 (fun wy => wy = wc)
    case first =>
      try clear hE
      try clear h1
      clear hy
      have ocdx := oR hcx hdx
      have oacx := oR hax hcx
      have oadx := oR hax hdx
      have obcx := oR hbx hcx
      have obdx := oR hbx hdx
      by_cases p1 : Bx < Ax
      · have d1 := decide_eq_true p1
        by_cases p2 : Dx < Cx
        · have d2 := decide_eq_true p2
          have n3 : ¬ Cx < Bx := by omega
          have n4 : ¬ Ax < Dx := by omega
          have d3 := decide_eq_false n3
          have d4 := decide_eq_false n4
          clear hx
          go_wp2
          go_meet
          rfl
        · have d2 := decide_eq_false p2
          have n3 : ¬ Dx < Bx := by omega
          have n4 : ¬ Ax < Cx := by omega
          have d3 := decide_eq_false n3
          have d4 := decide_eq_false n4
          clear hx
          go_wp2
          go_meet
          rfl
      · have d1 := decide_eq_false p1
        by_cases p2 : Dx < Cx
        · have d2 := decide_eq_true p2
          have n3 : ¬ Cx < Ax := by omega
          have n4 : ¬ Bx < Dx := by omega
          have d3 := decide_eq_false n3
          have d4 := decide_eq_false n4
          clear hx
          go_wp2
          go_meet
          rfl
        · have d2 := decide_eq_false p2
          have n3 : ¬ Dx < Ax := by omega
          have n4 : ¬ Bx < Cx := by omega
          have d3 := decide_eq_false n3
          have d4 := decide_eq_false n4
          clear hx
          go_wp2
          go_meet
          rfl
    case rest =>
      subst hcut
      by_cases e1 : Ax = Cx ∧ Ay = Cy
      · have g1 := fun u => eqPt hax hay hcx hcy (decide_eq_true e1) u
        go_wp2_with (simp only [g1])
        go_ret
        exact SisX.mk _ rfl hsx hB
      have g1 := fun u => eqPt hax hay hcx hcy (decide_eq_false e1) u
      by_cases e2 : Ax = Dx ∧ Ay = Dy
      · have g2 := fun u => eqPt hax hay hdx hdy (decide_eq_true e2) u
        go_wp2_with (simp only [g1, g2])
        go_ret
        exact SisX.mk _ rfl hsx hB
      have g2 := fun u => eqPt hax hay hdx hdy (decide_eq_false e2) u
      by_cases e3 : Bx = Cx ∧ By = Cy
      · have g3 := fun u => eqPt hbx hby hcx hcy (decide_eq_true e3) u
        go_wp2_with (simp only [g1, g2, g3])
        go_ret
        exact SisX.mk _ rfl hsx hB
      have g3 := fun u => eqPt hbx hby hcx hcy (decide_eq_false e3) u
      by_cases e4 : Bx = Dx ∧ By = Dy
      · have g4 := fun u => eqPt hbx hby hdx hdy (decide_eq_true e4) u
        go_wp2_with (simp only [g1, g2, g3, g4])
        go_ret
        exact SisX.mk _ rfl hsx hB
      have g4 := fun u => eqPt hbx hby hdx hdy (decide_eq_false e4) u
      exact absurd hE (by omega)
end Go.Proofs.YtbfanhdofopnnaaGreat
