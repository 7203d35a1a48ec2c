import Derived.Test.YtlpibeloedfbdaaGreatIxA
set_option linter.unusedSimpArgs false
set_option linter.unusedVariables false
namespace Go.Proofs.YtlpibeloedfbdaaGreat
open Go.RowKit PF JR

set_option maxHeartbeats 4000000 in
set_option maxRecDepth 100000 in
theorem six_e {ax ay bx bY cx cy dx dy : Nat} {Ax Ay Bx By Cx Cy Dx Dy : Int} (hax : Rep ax Ax) (hay : Rep ay Ay) (hbx : Rep bx Bx) (hby : Rep bY By) (hcx : Rep cx Cx) (hcy : Rep cy Cy) (hdx : Rep dx Dx) (hdy : Rep dy Dy)
    (b1 : -12288 ≤ Ax ∧ Ax ≤ 12288 ∧ -12288 ≤ Ay ∧ Ay ≤ 12288 ∧ -12288 ≤ Bx ∧ Bx ≤ 12288 ∧ -12288 ≤ By ∧ By ≤ 12288) (b2 : -12288 ≤ Cx ∧ Cx ≤ 12288 ∧ -12288 ≤ Cy ∧ Cy ≤ 12288 ∧ -12288 ≤ Dx ∧ Dx ≤ 12288 ∧ -12288 ≤ Dy ∧ Dy ≤ 12288) (hy : ¬ ((Ay < Cy ∧ Ay < Dy ∧ By < Cy ∧ By < Dy) ∨ (Cy < Ay ∧ Cy < By ∧ Dy < Ay ∧ Dy < By))) (hx : ¬ ((Ax < Cx ∧ Ax < Dx ∧ Bx < Cx ∧ Bx < Dx) ∨ (Cx < Ax ∧ Cx < Bx ∧ Dx < Ax ∧ Dx < Bx))) (hE : ((Ax = Cx ∧ Ay = Cy) ∨ (Ax = Dx ∧ Ay = Dy) ∨ (Bx = Cx ∧ By = Cy) ∨ (Bx = Dx ∧ By = Dy))) (w : World) :
    Calls Tryz.prog 139 #[.agg #[fl ax, fl ay, fl bx, fl bY], .agg #[fl cx, fl cy, fl dx, fl dy]] w (SisX Ax Ay Bx By Cx Cy Dx Dy w) := by
  have hsx := sx_e hy hx hE
  have st0 := ((Blk.nil w).push rfl #[fl ax, fl ay, fl bx, fl bY] 73).push (b := w.heap.size + 1) (by simp) #[fl cx, fl cy, fl dx, fl dy] 73
  have zt0 := st0.cell 0 rfl 0
  have zt1 := st0.cell 0 rfl 1
  have zt2 := st0.cell 0 rfl 2
  have zt3 := st0.cell 0 rfl 3
  have zs0 := st0.cell 1 rfl 0
  have zs1 := st0.cell 1 rfl 1
  have zs2 := st0.cell 1 rfl 2
  have zs3 := st0.cell 1 rfl 3
  simp only [List.getElem?_toArray, List.getElem?_cons_zero, List.getElem?_cons_succ] at zt0 zt1 zt2 zt3 zs0 zs1 zs2 zs3
  go_enter Tryz.func139, Tryz.ntmps139
  go_wp2
  refine wp_region_K [] [.val (.pointer (some ⟨w.heap.size, 0, none⟩)),
      .val (.agg #[fl ax, fl ay]),
      .val (.pointer (some ⟨w.heap.size, 2, none⟩)),
      .val (.agg #[fl bx, fl bY]),
      .val (.pointer (some ⟨w.heap.size + 1, 0, none⟩)),
      .val (.agg #[fl cx, fl cy]),
      .val (.pointer (some ⟨w.heap.size + 1, 2, none⟩)),
      .val (.agg #[fl dx, fl dy]),
      .made 50 2,
      .made 50 2,
      .made 50 2,
      .made 50 2,
      .filled 5 #[fl ax, fl ay] 50,
      .filled 6 #[fl bx, fl bY] 50,
      .filled 7 #[fl cx, fl cy] 50,
      .filled 8 #[fl dx, fl dy] 50]
    [[.ini 2], [.frm 0 21], [.ini 2], [.frm 2 23], [.ini 3], [.frm 4 25], [.ini 3], [.frm 6 27], [], [], [], [], [.frm 8 5, .frm 1 22], [.frm 9 6, .frm 3 24], [.frm 10 7, .frm 5 26], [.frm 11 8, .frm 7 28]]
    mixed (by kernel_rfl) (by kernel_rfl) (allPre_of ⟨trivial, trivial, trivial, trivial, trivial, trivial, trivial, trivial, trivial, trivial, trivial, trivial, trivial, trivial, trivial, trivial, trivial⟩)
    ⟨OpOk.quiet rfl ?_,
      OpOk.quiet rfl ?_,
      OpOk.quiet rfl ?_,
      OpOk.quiet rfl ?_,
      OpOk.quiet rfl ?_,
      OpOk.quiet rfl ?_,
      OpOk.quiet rfl ?_,
      OpOk.quiet rfl ?_,
      OpOk.made (cs := #[fl 0, fl 0]) rfl rfl ?_,
      OpOk.made (cs := #[fl 0, fl 0]) rfl rfl ?_,
      OpOk.made (cs := #[fl 0, fl 0]) rfl rfl ?_,
      OpOk.made (cs := #[fl 0, fl 0]) rfl rfl ?_,
      OpOk.fillRow (k := 8) rfl rfl (by kernel_rfl) rfl (oldLt_of ⟨(fun _ h => (nomatch h)), (fun _ h => (nomatch h)), (fun _ h => (nomatch h)), (fun _ h => (nomatch h)), (fun _ h => (nomatch h)), (fun _ h => (nomatch h)), (fun _ h => (nomatch h)), (fun _ h => (nomatch h)), (fun _ h => (nomatch h)), (fun _ h => (nomatch h)), (fun _ h => (nomatch h)), (fun _ h => (nomatch h)), (fun _ h => (nomatch h)), (fun _ h => (nomatch h)), (fun _ h => (nomatch h)), (fun _ h => (nomatch h)), trivial⟩) (by kernel_rfl) (by simp [Value.oneCell']) (fun a w hf => ⟨hf.1, hf.2.1.elim fun _ h => h.elim fun _ h => h⟩) (fun _ _ _ h hb => Keep.setRow h (.inl hb)),
      OpOk.fillRow (k := 9) rfl rfl (by kernel_rfl) rfl (oldLt_of ⟨(fun _ h => (nomatch h)), (fun _ h => (nomatch h)), (fun _ h => (nomatch h)), (fun _ h => (nomatch h)), (fun _ h => (nomatch h)), (fun _ h => (nomatch h)), (fun _ h => (nomatch h)), (fun _ h => (nomatch h)), (fun _ h => (nomatch h)), (fun _ h => (nomatch h)), (fun _ h => (nomatch h)), (fun _ h => (nomatch h)), (fun _ h => (nomatch h)), (fun _ h => (nomatch h)), (fun _ h => (nomatch h)), (fun _ h => (nomatch h)), trivial⟩) (by kernel_rfl) (by simp [Value.oneCell']) (fun a w hf => ⟨hf.1, hf.2.1.elim fun _ h => h.elim fun _ h => h⟩) (fun _ _ _ h hb => Keep.setRow h (.inl hb)),
      OpOk.fillRow (k := 10) rfl rfl (by kernel_rfl) rfl (oldLt_of ⟨(fun _ h => (nomatch h)), (fun _ h => (nomatch h)), (fun _ h => (nomatch h)), (fun _ h => (nomatch h)), (fun _ h => (nomatch h)), (fun _ h => (nomatch h)), (fun _ h => (nomatch h)), (fun _ h => (nomatch h)), (fun _ h => (nomatch h)), (fun _ h => (nomatch h)), (fun _ h => (nomatch h)), (fun _ h => (nomatch h)), (fun _ h => (nomatch h)), (fun _ h => (nomatch h)), (fun _ h => (nomatch h)), (fun _ h => (nomatch h)), trivial⟩) (by kernel_rfl) (by simp [Value.oneCell']) (fun a w hf => ⟨hf.1, hf.2.1.elim fun _ h => h.elim fun _ h => h⟩) (fun _ _ _ h hb => Keep.setRow h (.inl hb)),
      OpOk.fillRow (k := 11) rfl rfl (by kernel_rfl) rfl (oldLt_of ⟨(fun _ h => (nomatch h)), (fun _ h => (nomatch h)), (fun _ h => (nomatch h)), (fun _ h => (nomatch h)), (fun _ h => (nomatch h)), (fun _ h => (nomatch h)), (fun _ h => (nomatch h)), (fun _ h => (nomatch h)), (fun _ h => (nomatch h)), (fun _ h => (nomatch h)), (fun _ h => (nomatch h)), (fun _ h => (nomatch h)), (fun _ h => (nomatch h)), (fun _ h => (nomatch h)), (fun _ h => (nomatch h)), (fun _ h => (nomatch h)), trivial⟩) (by kernel_rfl) (by simp [Value.oneCell']) (fun a w hf => ⟨hf.1, hf.2.1.elim fun _ h => h.elim fun _ h => h⟩) (fun _ _ _ h hb => Keep.setRow h (.inl hb)), trivial⟩ ?_
  · intro a u _ hf
    simp [facts, Need.fact, Act.eval] at hf
    go_simp
  · intro a u hG hf
    simp [facts, Need.fact, Ent.val, Act.eval] at hf
    have hc := True.intro
    have qt0 := (hG.cell (p := ⟨w.heap.size + 1, 0, none⟩) (st0.lt 0 rfl) (by simp)).trans zt0
    have qt1 := (hG.cell (p := ⟨w.heap.size + 1, 1, none⟩) (st0.lt 0 rfl) (by simp)).trans zt1
    have qt2 := (hG.cell (p := ⟨w.heap.size + 1, 2, none⟩) (st0.lt 0 rfl) (by simp)).trans zt2
    have qt3 := (hG.cell (p := ⟨w.heap.size + 1, 3, none⟩) (st0.lt 0 rfl) (by simp)).trans zt3
    have qs0 := (hG.cell (p := ⟨w.heap.size, 0, none⟩) (st0.lt 1 rfl) (by simp)).trans zs0
    have qs1 := (hG.cell (p := ⟨w.heap.size, 1, none⟩) (st0.lt 1 rfl) (by simp)).trans zs1
    have qs2 := (hG.cell (p := ⟨w.heap.size, 2, none⟩) (st0.lt 1 rfl) (by simp)).trans zs2
    have qs3 := (hG.cell (p := ⟨w.heap.size, 3, none⟩) (st0.lt 1 rfl) (by simp)).trans zs3

    go_simp
  · intro a u _ hf
    simp [facts, Need.fact, Act.eval] at hf
    go_simp
  · intro a u hG hf
    simp [facts, Need.fact, Ent.val, Act.eval] at hf
    have hc := True.intro
    have qt0 := (hG.cell (p := ⟨w.heap.size + 1, 0, none⟩) (st0.lt 0 rfl) (by simp)).trans zt0
    have qt1 := (hG.cell (p := ⟨w.heap.size + 1, 1, none⟩) (st0.lt 0 rfl) (by simp)).trans zt1
    have qt2 := (hG.cell (p := ⟨w.heap.size + 1, 2, none⟩) (st0.lt 0 rfl) (by simp)).trans zt2
    have qt3 := (hG.cell (p := ⟨w.heap.size + 1, 3, none⟩) (st0.lt 0 rfl) (by simp)).trans zt3
    have qs0 := (hG.cell (p := ⟨w.heap.size, 0, none⟩) (st0.lt 1 rfl) (by simp)).trans zs0
    have qs1 := (hG.cell (p := ⟨w.heap.size, 1, none⟩) (st0.lt 1 rfl) (by simp)).trans zs1
    have qs2 := (hG.cell (p := ⟨w.heap.size, 2, none⟩) (st0.lt 1 rfl) (by simp)).trans zs2
    have qs3 := (hG.cell (p := ⟨w.heap.size, 3, none⟩) (st0.lt 1 rfl) (by simp)).trans zs3

    go_simp
  · intro a u _ hf
    simp [facts, Need.fact, Act.eval] at hf
    go_simp
  · intro a u hG hf
    simp [facts, Need.fact, Ent.val, Act.eval] at hf
    have hc := True.intro
    have qt0 := (hG.cell (p := ⟨w.heap.size + 1, 0, none⟩) (st0.lt 0 rfl) (by simp)).trans zt0
    have qt1 := (hG.cell (p := ⟨w.heap.size + 1, 1, none⟩) (st0.lt 0 rfl) (by simp)).trans zt1
    have qt2 := (hG.cell (p := ⟨w.heap.size + 1, 2, none⟩) (st0.lt 0 rfl) (by simp)).trans zt2
    have qt3 := (hG.cell (p := ⟨w.heap.size + 1, 3, none⟩) (st0.lt 0 rfl) (by simp)).trans zt3
    have qs0 := (hG.cell (p := ⟨w.heap.size, 0, none⟩) (st0.lt 1 rfl) (by simp)).trans zs0
    have qs1 := (hG.cell (p := ⟨w.heap.size, 1, none⟩) (st0.lt 1 rfl) (by simp)).trans zs1
    have qs2 := (hG.cell (p := ⟨w.heap.size, 2, none⟩) (st0.lt 1 rfl) (by simp)).trans zs2
    have qs3 := (hG.cell (p := ⟨w.heap.size, 3, none⟩) (st0.lt 1 rfl) (by simp)).trans zs3

    go_simp
  · intro a u _ hf
    simp [facts, Need.fact, Act.eval] at hf
    go_simp
  · intro a u hG hf
    simp [facts, Need.fact, Ent.val, Act.eval] at hf
    have hc := True.intro
    have qt0 := (hG.cell (p := ⟨w.heap.size + 1, 0, none⟩) (st0.lt 0 rfl) (by simp)).trans zt0
    have qt1 := (hG.cell (p := ⟨w.heap.size + 1, 1, none⟩) (st0.lt 0 rfl) (by simp)).trans zt1
    have qt2 := (hG.cell (p := ⟨w.heap.size + 1, 2, none⟩) (st0.lt 0 rfl) (by simp)).trans zt2
    have qt3 := (hG.cell (p := ⟨w.heap.size + 1, 3, none⟩) (st0.lt 0 rfl) (by simp)).trans zt3
    have qs0 := (hG.cell (p := ⟨w.heap.size, 0, none⟩) (st0.lt 1 rfl) (by simp)).trans zs0
    have qs1 := (hG.cell (p := ⟨w.heap.size, 1, none⟩) (st0.lt 1 rfl) (by simp)).trans zs1
    have qs2 := (hG.cell (p := ⟨w.heap.size, 2, none⟩) (st0.lt 1 rfl) (by simp)).trans zs2
    have qs3 := (hG.cell (p := ⟨w.heap.size, 3, none⟩) (st0.lt 1 rfl) (by simp)).trans zs3

    go_simp
  · intro a u _ _
    go_simp
  · intro a u _ _
    go_simp
  · intro a u _ _
    go_simp
  · intro a u _ _
    go_simp
  intro u lw hw wx hK hE hI hD
  simp [allE, allPut, Act.put, Act.eval, Ent.filledP, Ent.made, Ent.val] at hE
  obtain ⟨u0, u1, u2, u3, u4, u5, u6, u7, ⟨b8, u8, l8, h8, -⟩, ⟨b9, u9, l9, h9, -⟩, ⟨b10, u10, l10, h10, -⟩, ⟨b11, u11, l11, h11, -⟩, ⟨c12, v12, g12⟩, ⟨c13, v13, g13⟩, ⟨c14, v14, g14⟩, ⟨c15, v15, g15⟩⟩ := hE
  obtain rfl : b8 = c12 := by rw [u8] at v12; simpa using v12
  obtain rfl : b9 = c13 := by rw [u9] at v13; simpa using v13
  obtain rfl : b10 = c14 := by rw [u10] at v14; simpa using v14
  obtain rfl : b11 = c15 := by rw [u11] at v15; simpa using v15
  simp only [allPut, Act.put, u0, u1, u2, u3, u4, u5, u6, u7, u8, u9, u10, u11]
  clear u0 u1 u2 u3 u4 u5 u6 u7 u8 u9 u10 u11 v12 v13 v14 v15
  have st1 := ((((st0.keep hK (fun i x _ => by simp) (fun x hx => by simp at hx)).add g15).add g14).add g13).add g12
  clear zt0 zt1 zt2 zt3 zs0 zs1 zs2 zs3 hK hI hD g12 g13 g14 g15 st0 l8 l9 l10 l11 h8 h9 h10 h11
  have ka0 := st1.cell 0 rfl 0
  have ka1 := st1.cell 0 rfl 1
  have kb0 := st1.cell 1 rfl 0
  have kb1 := st1.cell 1 rfl 1
  have kc0 := st1.cell 2 rfl 0
  have kc1 := st1.cell 2 rfl 1
  have kd0 := st1.cell 3 rfl 0
  have kd1 := st1.cell 3 rfl 1
  have kt0 := st1.cell 4 rfl 0
  have kt1 := st1.cell 4 rfl 1
  have kt2 := st1.cell 4 rfl 2
  have kt3 := st1.cell 4 rfl 3
  have ks0 := st1.cell 5 rfl 0
  have ks1 := st1.cell 5 rfl 1
  have ks2 := st1.cell 5 rfl 2
  have ks3 := st1.cell 5 rfl 3
  simp only [List.getElem?_toArray, List.getElem?_cons_zero, List.getElem?_cons_succ] at ka0 ka1 kb0 kb1 kc0 kc1 kd0 kd1 kt0 kt1 kt2 kt3 ks0 ks1 ks2 ks3
  have hB := st1.hb
  have oaby := oR hay hby
  go_upto_if 33 with (fail)
  go_cut [] from 29 to 91 (fun wy => wy = wx)
  case first =>
    try clear hE
    try clear h1
    clear hx
    have ocdy := oR hcy hdy
    have oacy := oR hay hcy
    have oady := oR hay hdy
    have obcy := oR hby hcy
    have obdy := oR hby hdy
    by_cases p1 : By < Ay
    · have d1 := decide_eq_true p1
      by_cases p2 : Dy < Cy
      · have d2 := decide_eq_true p2
        have n3 : ¬ Cy < By := by omega
        have n4 : ¬ Ay < Dy := by omega
        have d3 := decide_eq_false n3
        have d4 := decide_eq_false n4
        clear hy
        go_wp2
        go_meet
        rfl
      · have d2 := decide_eq_false p2
        have n3 : ¬ Dy < By := by omega
        have n4 : ¬ Ay < Cy := by omega
        have d3 := decide_eq_false n3
        have d4 := decide_eq_false n4
        clear hy
        go_wp2
        go_meet
        rfl
    · have d1 := decide_eq_false p1
      by_cases p2 : Dy < Cy
      · have d2 := decide_eq_true p2
        have n3 : ¬ Cy < Ay := by omega
        have n4 : ¬ By < Dy := by omega
        have d3 := decide_eq_false n3
        have d4 := decide_eq_false n4
        clear hy
        go_wp2
        go_meet
        rfl
      · have d2 := decide_eq_false p2
        have n3 : ¬ Dy < Ay := by omega
        have n4 : ¬ By < Cy := by omega
        have d3 := decide_eq_false n3
        have d4 := decide_eq_false n4
        clear hy
        go_wp2
        go_meet
        rfl
  case rest =>
    subst hcut
    have oabx := oR hax hbx
    go_upto_if 96 with (fail)
    go_cut [] from 92 to 154 (fun wy => wy = wc)
    case first =>
      try clear hE
      try clear h1
      clear hy
      have ocdx := oR hcx hdx
      have oacx := oR hax hcx
      have oadx := oR hax hdx
      have obcx := oR hbx hcx
      have obdx := oR hbx hdx
      by_cases p1 : Bx < Ax
      · have d1 := decide_eq_true p1
        by_cases p2 : Dx < Cx
        · have d2 := decide_eq_true p2
          have n3 : ¬ Cx < Bx := by omega
          have n4 : ¬ Ax < Dx := by omega
          have d3 := decide_eq_false n3
          have d4 := decide_eq_false n4
          clear hx
          go_wp2
          go_meet
          rfl
        · have d2 := decide_eq_false p2
          have n3 : ¬ Dx < Bx := by omega
          have n4 : ¬ Ax < Cx := by omega
          have d3 := decide_eq_false n3
          have d4 := decide_eq_false n4
          clear hx
          go_wp2
          go_meet
          rfl
      · have d1 := decide_eq_false p1
        by_cases p2 : Dx < Cx
        · have d2 := decide_eq_true p2
          have n3 : ¬ Cx < Ax := by omega
          have n4 : ¬ Bx < Dx := by omega
          have d3 := decide_eq_false n3
          have d4 := decide_eq_false n4
          clear hx
          go_wp2
          go_meet
          rfl
        · have d2 := decide_eq_false p2
          have n3 : ¬ Dx < Ax := by omega
          have n4 : ¬ Bx < Cx := by omega
          have d3 := decide_eq_false n3
          have d4 := decide_eq_false n4
          clear hx
          go_wp2
          go_meet
          rfl
    case rest =>
      subst hcut
      by_cases e1 : Ax = Cx ∧ Ay = Cy
      · have g1 := fun u => eqPt hax hay hcx hcy (decide_eq_true e1) u
        go_wp2_with (simp only [g1])
        go_ret
        exact SisX.mk _ rfl hsx hB
      have g1 := fun u => eqPt hax hay hcx hcy (decide_eq_false e1) u
      by_cases e2 : Ax = Dx ∧ Ay = Dy
      · have g2 := fun u => eqPt hax hay hdx hdy (decide_eq_true e2) u
        go_wp2_with (simp only [g1, g2])
        go_ret
        exact SisX.mk _ rfl hsx hB
      have g2 := fun u => eqPt hax hay hdx hdy (decide_eq_false e2) u
      by_cases e3 : Bx = Cx ∧ By = Cy
      · have g3 := fun u => eqPt hbx hby hcx hcy (decide_eq_true e3) u
        go_wp2_with (simp only [g1, g2, g3])
        go_ret
        exact SisX.mk _ rfl hsx hB
      have g3 := fun u => eqPt hbx hby hcx hcy (decide_eq_false e3) u
      by_cases e4 : Bx = Dx ∧ By = Dy
      · have g4 := fun u => eqPt hbx hby hdx hdy (decide_eq_true e4) u
        go_wp2_with (simp only [g1, g2, g3, g4])
        go_ret
        exact SisX.mk _ rfl hsx hB
      have g4 := fun u => eqPt hbx hby hdx hdy (decide_eq_false e4) u
      exact absurd hE (by omega)
end Go.Proofs.YtlpibeloedfbdaaGreat
set_option linter.unusedSimpArgs false
set_option linter.unusedVariables false
namespace Go.Proofs.YtlpibeloedfbdaaGreat
open Go.RowKit PF JR

set_option maxHeartbeats 4000000 in
set_option maxRecDepth 100000 in
theorem six_col {ax ay bx bY cx cy dx dy : Nat} {Ax Ay Bx By Cx Cy Dx Dy : Int} (hax : Rep ax Ax) (hay : Rep ay Ay) (hbx : Rep bx Bx) (hby : Rep bY By) (hcx : Rep cx Cx) (hcy : Rep cy Cy) (hdx : Rep dx Dx) (hdy : Rep dy Dy)
    (b1 : -12288 ≤ Ax ∧ Ax ≤ 12288 ∧ -12288 ≤ Ay ∧ Ay ≤ 12288 ∧ -12288 ≤ Bx ∧ Bx ≤ 12288 ∧ -12288 ≤ By ∧ By ≤ 12288) (b2 : -12288 ≤ Cx ∧ Cx ≤ 12288 ∧ -12288 ≤ Cy ∧ Cy ≤ 12288 ∧ -12288 ≤ Dx ∧ Dx ≤ 12288 ∧ -12288 ≤ Dy ∧ Dy ≤ 12288) (hy : ¬ ((Ay < Cy ∧ Ay < Dy ∧ By < Cy ∧ By < Dy) ∨ (Cy < Ay ∧ Cy < By ∧ Dy < Ay ∧ Dy < By))) (hx : ¬ ((Ax < Cx ∧ Ax < Dx ∧ Bx < Cx ∧ Bx < Dx) ∨ (Cx < Ax ∧ Cx < Bx ∧ Dx < Ax ∧ Dx < Bx))) (hE : ¬ ((Ax = Cx ∧ Ay = Cy) ∨ (Ax = Dx ∧ Ay = Dy) ∨ (Bx = Cx ∧ By = Cy) ∨ (Bx = Dx ∧ By = Dy))) (h1 : side Ax Ay Bx By Cx Cy = 0) (w : World) :
    Calls Tryz.prog 139 #[.agg #[fl ax, fl ay, fl bx, fl bY], .agg #[fl cx, fl cy, fl dx, fl dy]] w (SisX Ax Ay Bx By Cx Cy Dx Dy w) := by
  have hsx := sx_col hy hx hE h1
  have st0 := ((Blk.nil w).push rfl #[fl ax, fl ay, fl bx, fl bY] 73).push (b := w.heap.size + 1) (by simp) #[fl cx, fl cy, fl dx, fl dy] 73
  have zt0 := st0.cell 0 rfl 0
  have zt1 := st0.cell 0 rfl 1
  have zt2 := st0.cell 0 rfl 2
  have zt3 := st0.cell 0 rfl 3
  have zs0 := st0.cell 1 rfl 0
  have zs1 := st0.cell 1 rfl 1
  have zs2 := st0.cell 1 rfl 2
  have zs3 := st0.cell 1 rfl 3
  simp only [List.getElem?_toArray, List.getElem?_cons_zero, List.getElem?_cons_succ] at zt0 zt1 zt2 zt3 zs0 zs1 zs2 zs3
  go_enter Tryz.func139, Tryz.ntmps139
  go_wp2
  refine wp_region_K [] [.val (.pointer (some ⟨w.heap.size, 0, none⟩)),
      .val (.agg #[fl ax, fl ay]),
      .val (.pointer (some ⟨w.heap.size, 2, none⟩)),
      .val (.agg #[fl bx, fl bY]),
      .val (.pointer (some ⟨w.heap.size + 1, 0, none⟩)),
      .val (.agg #[fl cx, fl cy]),
      .val (.pointer (some ⟨w.heap.size + 1, 2, none⟩)),
      .val (.agg #[fl dx, fl dy]),
      .made 50 2,
      .made 50 2,
      .made 50 2,
      .made 50 2,
      .filled 5 #[fl ax, fl ay] 50,
      .filled 6 #[fl bx, fl bY] 50,
      .filled 7 #[fl cx, fl cy] 50,
      .filled 8 #[fl dx, fl dy] 50]
    [[.ini 2], [.frm 0 21], [.ini 2], [.frm 2 23], [.ini 3], [.frm 4 25], [.ini 3], [.frm 6 27], [], [], [], [], [.frm 8 5, .frm 1 22], [.frm 9 6, .frm 3 24], [.frm 10 7, .frm 5 26], [.frm 11 8, .frm 7 28]]
    mixed (by kernel_rfl) (by kernel_rfl) (allPre_of ⟨trivial, trivial, trivial, trivial, trivial, trivial, trivial, trivial, trivial, trivial, trivial, trivial, trivial, trivial, trivial, trivial, trivial⟩)
    ⟨OpOk.quiet rfl ?_,
      OpOk.quiet rfl ?_,
      OpOk.quiet rfl ?_,
      OpOk.quiet rfl ?_,
      OpOk.quiet rfl ?_,
      OpOk.quiet rfl ?_,
      OpOk.quiet rfl ?_,
      OpOk.quiet rfl ?_,
      OpOk.made (cs := #[fl 0, fl 0]) rfl rfl ?_,
      OpOk.made (cs := #[fl 0, fl 0]) rfl rfl ?_,
      OpOk.made (cs := #[fl 0, fl 0]) rfl rfl ?_,
      OpOk.made (cs := #[fl 0, fl 0]) rfl rfl ?_,
      OpOk.fillRow (k := 8) rfl rfl (by kernel_rfl) rfl (oldLt_of ⟨(fun _ h => (nomatch h)), (fun _ h => (nomatch h)), (fun _ h => (nomatch h)), (fun _ h => (nomatch h)), (fun _ h => (nomatch h)), (fun _ h => (nomatch h)), (fun _ h => (nomatch h)), (fun _ h => (nomatch h)), (fun _ h => (nomatch h)), (fun _ h => (nomatch h)), (fun _ h => (nomatch h)), (fun _ h => (nomatch h)), (fun _ h => (nomatch h)), (fun _ h => (nomatch h)), (fun _ h => (nomatch h)), (fun _ h => (nomatch h)), trivial⟩) (by kernel_rfl) (by simp [Value.oneCell']) (fun a w hf => ⟨hf.1, hf.2.1.elim fun _ h => h.elim fun _ h => h⟩) (fun _ _ _ h hb => Keep.setRow h (.inl hb)),
      OpOk.fillRow (k := 9) rfl rfl (by kernel_rfl) rfl (oldLt_of ⟨(fun _ h => (nomatch h)), (fun _ h => (nomatch h)), (fun _ h => (nomatch h)), (fun _ h => (nomatch h)), (fun _ h => (nomatch h)), (fun _ h => (nomatch h)), (fun _ h => (nomatch h)), (fun _ h => (nomatch h)), (fun _ h => (nomatch h)), (fun _ h => (nomatch h)), (fun _ h => (nomatch h)), (fun _ h => (nomatch h)), (fun _ h => (nomatch h)), (fun _ h => (nomatch h)), (fun _ h => (nomatch h)), (fun _ h => (nomatch h)), trivial⟩) (by kernel_rfl) (by simp [Value.oneCell']) (fun a w hf => ⟨hf.1, hf.2.1.elim fun _ h => h.elim fun _ h => h⟩) (fun _ _ _ h hb => Keep.setRow h (.inl hb)),
      OpOk.fillRow (k := 10) rfl rfl (by kernel_rfl) rfl (oldLt_of ⟨(fun _ h => (nomatch h)), (fun _ h => (nomatch h)), (fun _ h => (nomatch h)), (fun _ h => (nomatch h)), (fun _ h => (nomatch h)), (fun _ h => (nomatch h)), (fun _ h => (nomatch h)), (fun _ h => (nomatch h)), (fun _ h => (nomatch h)), (fun _ h => (nomatch h)), (fun _ h => (nomatch h)), (fun _ h => (nomatch h)), (fun _ h => (nomatch h)), (fun _ h => (nomatch h)), (fun _ h => (nomatch h)), (fun _ h => (nomatch h)), trivial⟩) (by kernel_rfl) (by simp [Value.oneCell']) (fun a w hf => ⟨hf.1, hf.2.1.elim fun _ h => h.elim fun _ h => h⟩) (fun _ _ _ h hb => Keep.setRow h (.inl hb)),
      OpOk.fillRow (k := 11) rfl rfl (by kernel_rfl) rfl (oldLt_of ⟨(fun _ h => (nomatch h)), (fun _ h => (nomatch h)), (fun _ h => (nomatch h)), (fun _ h => (nomatch h)), (fun _ h => (nomatch h)), (fun _ h => (nomatch h)), (fun _ h => (nomatch h)), (fun _ h => (nomatch h)), (fun _ h => (nomatch h)), (fun _ h => (nomatch h)), (fun _ h => (nomatch h)), (fun _ h => (nomatch h)), (fun _ h => (nomatch h)), (fun _ h => (nomatch h)), (fun _ h => (nomatch h)), (fun _ h => (nomatch h)), trivial⟩) (by kernel_rfl) (by simp [Value.oneCell']) (fun a w hf => ⟨hf.1, hf.2.1.elim fun _ h => h.elim fun _ h => h⟩) (fun _ _ _ h hb => Keep.setRow h (.inl hb)), trivial⟩ ?_
  · intro a u _ hf
    simp [facts, Need.fact, Act.eval] at hf
    go_simp
  · intro a u hG hf
    simp [facts, Need.fact, Ent.val, Act.eval] at hf
    have hc := True.intro
    have qt0 := (hG.cell (p := ⟨w.heap.size + 1, 0, none⟩) (st0.lt 0 rfl) (by simp)).trans zt0
    have qt1 := (hG.cell (p := ⟨w.heap.size + 1, 1, none⟩) (st0.lt 0 rfl) (by simp)).trans zt1
    have qt2 := (hG.cell (p := ⟨w.heap.size + 1, 2, none⟩) (st0.lt 0 rfl) (by simp)).trans zt2
    have qt3 := (hG.cell (p := ⟨w.heap.size + 1, 3, none⟩) (st0.lt 0 rfl) (by simp)).trans zt3
    have qs0 := (hG.cell (p := ⟨w.heap.size, 0, none⟩) (st0.lt 1 rfl) (by simp)).trans zs0
    have qs1 := (hG.cell (p := ⟨w.heap.size, 1, none⟩) (st0.lt 1 rfl) (by simp)).trans zs1
    have qs2 := (hG.cell (p := ⟨w.heap.size, 2, none⟩) (st0.lt 1 rfl) (by simp)).trans zs2
    have qs3 := (hG.cell (p := ⟨w.heap.size, 3, none⟩) (st0.lt 1 rfl) (by simp)).trans zs3

    go_simp
  · intro a u _ hf
    simp [facts, Need.fact, Act.eval] at hf
    go_simp
  · intro a u hG hf
    simp [facts, Need.fact, Ent.val, Act.eval] at hf
    have hc := True.intro
    have qt0 := (hG.cell (p := ⟨w.heap.size + 1, 0, none⟩) (st0.lt 0 rfl) (by simp)).trans zt0
    have qt1 := (hG.cell (p := ⟨w.heap.size + 1, 1, none⟩) (st0.lt 0 rfl) (by simp)).trans zt1
    have qt2 := (hG.cell (p := ⟨w.heap.size + 1, 2, none⟩) (st0.lt 0 rfl) (by simp)).trans zt2
    have qt3 := (hG.cell (p := ⟨w.heap.size + 1, 3, none⟩) (st0.lt 0 rfl) (by simp)).trans zt3
    have qs0 := (hG.cell (p := ⟨w.heap.size, 0, none⟩) (st0.lt 1 rfl) (by simp)).trans zs0
    have qs1 := (hG.cell (p := ⟨w.heap.size, 1, none⟩) (st0.lt 1 rfl) (by simp)).trans zs1
    have qs2 := (hG.cell (p := ⟨w.heap.size, 2, none⟩) (st0.lt 1 rfl) (by simp)).trans zs2
    have qs3 := (hG.cell (p := ⟨w.heap.size, 3, none⟩) (st0.lt 1 rfl) (by simp)).trans zs3

    go_simp
  · intro a u _ hf
    simp [facts, Need.fact, Act.eval] at hf
    go_simp
  · intro a u hG hf
    simp [facts, Need.fact, Ent.val, Act.eval] at hf
    have hc := True.intro
    have qt0 := (hG.cell (p := ⟨w.heap.size + 1, 0, none⟩) (st0.lt 0 rfl) (by simp)).trans zt0
    have qt1 := (hG.cell (p := ⟨w.heap.size + 1, 1, none⟩) (st0.lt 0 rfl) (by simp)).trans zt1
    have qt2 := (hG.cell (p := ⟨w.heap.size + 1, 2, none⟩) (st0.lt 0 rfl) (by simp)).trans zt2
    have qt3 := (hG.cell (p := ⟨w.heap.size + 1, 3, none⟩) (st0.lt 0 rfl) (by simp)).trans zt3
    have qs0 := (hG.cell (p := ⟨w.heap.size, 0, none⟩) (st0.lt 1 rfl) (by simp)).trans zs0
    have qs1 := (hG.cell (p := ⟨w.heap.size, 1, none⟩) (st0.lt 1 rfl) (by simp)).trans zs1
    have qs2 := (hG.cell (p := ⟨w.heap.size, 2, none⟩) (st0.lt 1 rfl) (by simp)).trans zs2
    have qs3 := (hG.cell (p := ⟨w.heap.size, 3, none⟩) (st0.lt 1 rfl) (by simp)).trans zs3

    go_simp
  · intro a u _ hf
    simp [facts, Need.fact, Act.eval] at hf
    go_simp
  · intro a u hG hf
    simp [facts, Need.fact, Ent.val, Act.eval] at hf
    have hc := True.intro
    have qt0 := (hG.cell (p := ⟨w.heap.size + 1, 0, none⟩) (st0.lt 0 rfl) (by simp)).trans zt0
    have qt1 := (hG.cell (p := ⟨w.heap.size + 1, 1, none⟩) (st0.lt 0 rfl) (by simp)).trans zt1
    have qt2 := (hG.cell (p := ⟨w.heap.size + 1, 2, none⟩) (st0.lt 0 rfl) (by simp)).trans zt2
    have qt3 := (hG.cell (p := ⟨w.heap.size + 1, 3, none⟩) (st0.lt 0 rfl) (by simp)).trans zt3
    have qs0 := (hG.cell (p := ⟨w.heap.size, 0, none⟩) (st0.lt 1 rfl) (by simp)).trans zs0
    have qs1 := (hG.cell (p := ⟨w.heap.size, 1, none⟩) (st0.lt 1 rfl) (by simp)).trans zs1
    have qs2 := (hG.cell (p := ⟨w.heap.size, 2, none⟩) (st0.lt 1 rfl) (by simp)).trans zs2
    have qs3 := (hG.cell (p := ⟨w.heap.size, 3, none⟩) (st0.lt 1 rfl) (by simp)).trans zs3

    go_simp
  · intro a u _ _
    go_simp
  · intro a u _ _
    go_simp
  · intro a u _ _
    go_simp
  · intro a u _ _
    go_simp
  intro u lw hw wx hK hE hI hD
  simp [allE, allPut, Act.put, Act.eval, Ent.filledP, Ent.made, Ent.val] at hE
  obtain ⟨u0, u1, u2, u3, u4, u5, u6, u7, ⟨b8, u8, l8, h8, -⟩, ⟨b9, u9, l9, h9, -⟩, ⟨b10, u10, l10, h10, -⟩, ⟨b11, u11, l11, h11, -⟩, ⟨c12, v12, g12⟩, ⟨c13, v13, g13⟩, ⟨c14, v14, g14⟩, ⟨c15, v15, g15⟩⟩ := hE
  obtain rfl : b8 = c12 := by rw [u8] at v12; simpa using v12
  obtain rfl : b9 = c13 := by rw [u9] at v13; simpa using v13
  obtain rfl : b10 = c14 := by rw [u10] at v14; simpa using v14
  obtain rfl : b11 = c15 := by rw [u11] at v15; simpa using v15
  simp only [allPut, Act.put, u0, u1, u2, u3, u4, u5, u6, u7, u8, u9, u10, u11]
  clear u0 u1 u2 u3 u4 u5 u6 u7 u8 u9 u10 u11 v12 v13 v14 v15
  have st1 := ((((st0.keep hK (fun i x _ => by simp) (fun x hx => by simp at hx)).add g15).add g14).add g13).add g12
  clear zt0 zt1 zt2 zt3 zs0 zs1 zs2 zs3 hK hI hD g12 g13 g14 g15 st0 l8 l9 l10 l11 h8 h9 h10 h11
  have ka0 := st1.cell 0 rfl 0
  have ka1 := st1.cell 0 rfl 1
  have kb0 := st1.cell 1 rfl 0
  have kb1 := st1.cell 1 rfl 1
  have kc0 := st1.cell 2 rfl 0
  have kc1 := st1.cell 2 rfl 1
  have kd0 := st1.cell 3 rfl 0
  have kd1 := st1.cell 3 rfl 1
  have kt0 := st1.cell 4 rfl 0
  have kt1 := st1.cell 4 rfl 1
  have kt2 := st1.cell 4 rfl 2
  have kt3 := st1.cell 4 rfl 3
  have ks0 := st1.cell 5 rfl 0
  have ks1 := st1.cell 5 rfl 1
  have ks2 := st1.cell 5 rfl 2
  have ks3 := st1.cell 5 rfl 3
  simp only [List.getElem?_toArray, List.getElem?_cons_zero, List.getElem?_cons_succ] at ka0 ka1 kb0 kb1 kc0 kc1 kd0 kd1 kt0 kt1 kt2 kt3 ks0 ks1 ks2 ks3
  have hB := st1.hb
  have oaby := oR hay hby
  go_upto_if 33 with (fail)
  go_cut [] from 29 to 91 (fun wy => wy = wx)
  case first =>
    try clear hE
    try clear h1
    clear hx
    have ocdy := oR hcy hdy
    have oacy := oR hay hcy
    have oady := oR hay hdy
    have obcy := oR hby hcy
    have obdy := oR hby hdy
    by_cases p1 : By < Ay
    · have d1 := decide_eq_true p1
      by_cases p2 : Dy < Cy
      · have d2 := decide_eq_true p2
        have n3 : ¬ Cy < By := by omega
        have n4 : ¬ Ay < Dy := by omega
        have d3 := decide_eq_false n3
        have d4 := decide_eq_false n4
        clear hy
        go_wp2
        go_meet
        rfl
      · have d2 := decide_eq_false p2
        have n3 : ¬ Dy < By := by omega
        have n4 : ¬ Ay < Cy := by omega
        have d3 := decide_eq_false n3
        have d4 := decide_eq_false n4
        clear hy
        go_wp2
        go_meet
        rfl
    · have d1 := decide_eq_false p1
      by_cases p2 : Dy < Cy
      · have d2 := decide_eq_true p2
        have n3 : ¬ Cy < Ay := by omega
        have n4 : ¬ By < Dy := by omega
        have d3 := decide_eq_false n3
        have d4 := decide_eq_false n4
        clear hy
        go_wp2
        go_meet
        rfl
      · have d2 := decide_eq_false p2
        have n3 : ¬ Dy < Ay := by omega
        have n4 : ¬ By < Cy := by omega
        have d3 := decide_eq_false n3
        have d4 := decide_eq_false n4
        clear hy
        go_wp2
        go_meet
        rfl
  case rest =>
    subst hcut
    have oabx := oR hax hbx
    go_upto_if 96 with (fail)
    go_cut [] from 92 to 154 (fun wy => wy = wc)
    case first =>
      try clear hE
      try clear h1
      clear hy
      have ocdx := oR hcx hdx
      have oacx := oR hax hcx
      have oadx := oR hax hdx
      have obcx := oR hbx hcx
      have obdx := oR hbx hdx
      by_cases p1 : Bx < Ax
      · have d1 := decide_eq_true p1
        by_cases p2 : Dx < Cx
        · have d2 := decide_eq_true p2
          have n3 : ¬ Cx < Bx := by omega
          have n4 : ¬ Ax < Dx := by omega
          have d3 := decide_eq_false n3
          have d4 := decide_eq_false n4
          clear hx
          go_wp2
          go_meet
          rfl
        · have d2 := decide_eq_false p2
          have n3 : ¬ Dx < Bx := by omega
          have n4 : ¬ Ax < Cx := by omega
          have d3 := decide_eq_false n3
          have d4 := decide_eq_false n4
          clear hx
          go_wp2
          go_meet
          rfl
      · have d1 := decide_eq_false p1
        by_cases p2 : Dx < Cx
        · have d2 := decide_eq_true p2
          have n3 : ¬ Cx < Ax := by omega
          have n4 : ¬ Bx < Dx := by omega
          have d3 := decide_eq_false n3
          have d4 := decide_eq_false n4
          clear hx
          go_wp2
          go_meet
          rfl
        · have d2 := decide_eq_false p2
          have n3 : ¬ Dx < Ax := by omega
          have n4 : ¬ Bx < Cx := by omega
          have d3 := decide_eq_false n3
          have d4 := decide_eq_false n4
          clear hx
          go_wp2
          go_meet
          rfl
    case rest =>
      subst hcut
      have e1 : ¬ (Ax = Cx ∧ Ay = Cy) := fun h => hE (by omega)
      have g1 := fun u => eqPt hax hay hcx hcy (decide_eq_false e1) u
      have e2 : ¬ (Ax = Dx ∧ Ay = Dy) := fun h => hE (by omega)
      have g2 := fun u => eqPt hax hay hdx hdy (decide_eq_false e2) u
      have e3 : ¬ (Bx = Cx ∧ By = Cy) := fun h => hE (by omega)
      have g3 := fun u => eqPt hbx hby hcx hcy (decide_eq_false e3) u
      have e4 : ¬ (Bx = Dx ∧ By = Dy) := fun h => hE (by omega)
      have g4 := fun u => eqPt hbx hby hdx hdy (decide_eq_false e4) u
      clear e1 e2 e3 e4 hy hx hE
      go_wp2_with (simp only [g1, g2, g3, g4])
      clear g1 g2 g3 g4
      obtain ⟨d1, e1, r1⟩ := subR hcx hax (by omega)
      obtain ⟨d2, e2, r2⟩ := subR hcy hay (by omega)
      obtain ⟨d3, e3, r3⟩ := subR hbx hax (by omega)
      obtain ⟨d4, e4, r4⟩ := subR hby hay (by omega)
      have k1 := bmul (a := Cx - Ax) (b := By - Ay) (by omega) (by omega)
      have k2 := bmul (a := Cy - Ay) (b := Bx - Ax) (by omega) (by omega)
      obtain ⟨m1, f1, t1⟩ := mulR r1 r4 (by omega)
      obtain ⟨m2, f2, t2⟩ := mulR r2 r3 (by omega)
      obtain ⟨z, f3, t3⟩ := subR t1 t2 (by omega)
      have hn : (Cx - Ax) * (By - Ay) - (Cy - Ay) * (Bx - Ax) = -side Ax Ay Bx By Cx Cy := id_n
      rw [hn] at t3
      generalize hn' : -side Ax Ay Bx By Cx Cy = n at t3
      clear k1 k2 t1 t2 hn
      obtain ⟨d5, e5, r5⟩ := subR hcx hbx (by omega)
      obtain ⟨d6, e6, r6⟩ := subR hcy hby (by omega)
      obtain ⟨d7, e7, r7⟩ := subR hdx hcx (by omega)
      obtain ⟨d8, e8, r8⟩ := subR hdy hcy (by omega)
      have k1 := bmul2 (a := Cx - Ax) (b := Dy - Cy) (by omega) (by omega)
      have k2 := bmul2 (a := Cy - Ay) (b := Dx - Cx) (by omega) (by omega)
      have k3 := bmul2 (a := Bx - Ax) (b := Dy - Cy) (by omega) (by omega)
      have k4 := bmul2 (a := By - Ay) (b := Dx - Cx) (by omega) (by omega)
      have k5 := bmul2 (a := Cx - Ax) (b := By - Ay) (by omega) (by omega)
      have k6 := bmul2 (a := Cy - Ay) (b := Bx - Ax) (by omega) (by omega)
      obtain ⟨m3, f4, t4⟩ := mulR r1 r8 (by omega)
      obtain ⟨m4, f5, t5⟩ := mulR r2 r7 (by omega)
      obtain ⟨z2, f6, t6⟩ := subR t4 t5 (by omega)
      obtain ⟨m5, f7, t7⟩ := mulR r3 r8 (by omega)
      obtain ⟨m6, f8, t8⟩ := mulR r4 r7 (by omega)
      obtain ⟨z3, f9, t9⟩ := subR t7 t8 (by omega)
      have hs3 : (Cx - Ax) * (Dy - Cy) - (Cy - Ay) * (Dx - Cx) = side Cx Cy Dx Dy Ax Ay := id_s
      have hm : (Bx - Ax) * (Dy - Cy) - (By - Ay) * (Dx - Cx) = side Ax Ay Bx By Dx Dy - side Ax Ay Bx By Cx Cy := id_m
      have hn2 : (Cx - Ax) * (By - Ay) - (Cy - Ay) * (Bx - Ax) = -side Ax Ay Bx By Cx Cy := id_n
      have bs3 : (side Cx Cy Dx Dy Ax Ay).natAbs < 2147483648 := by rw [← hs3]; omega
      have bm : (side Ax Ay Bx By Dx Dy - side Ax Ay Bx By Cx Cy).natAbs < 2147483648 := by rw [← hm]; omega
      have bn : (-side Ax Ay Bx By Cx Cy).natAbs < 2147483648 := by rw [← hn2]; omega
      rw [hs3] at t6
      rw [hm] at t9
      rw [hn'] at bn
      generalize hs3' : side Cx Cy Dx Dy Ax Ay = s3 at t6 bs3
      generalize hm' : side Ax Ay Bx By Dx Dy - side Ax Ay Bx By Cx Cy = m at t9 bm
      clear k1 k2 k3 k4 k5 k6 t4 t5 t7 t8 hs3 hm hn2
      have n0 : n = 0 := by omega
      have h2 : ovl Ax Ay Bx By Cx Cy Dx Dy = false → side Ax Ay Bx By Dx Dy ≠ 0 := fun ho => (ovl_false ho).1.resolve_left (fun h => h h1)
      obtain ⟨x1, hx1⟩ : ∃ c, decide (Cx - Ax ≤ 0) = c := ⟨_, rfl⟩
      obtain ⟨x2, hx2⟩ : ∃ c, decide (Cx - Bx ≤ 0) = c := ⟨_, rfl⟩
      obtain ⟨x3, hx3⟩ : ∃ c, decide (Cy - Ay ≤ 0) = c := ⟨_, rfl⟩
      obtain ⟨x4, hx4⟩ : ∃ c, decide (Cy - By ≤ 0) = c := ⟨_, rfl⟩
      have w0 := rep_leq r1 hx1
      have w1 := rep_leq r5 hx2
      have w2 := rep_leq r2 hx3
      have w3 := rep_leq r6 hx4
      have hP0 : decide ((Ax < Cx ∧ Cx ≤ Bx) ∨ (Bx < Cx ∧ Cx ≤ Ax) ∨ (Ay < Cy ∧ Cy ≤ By) ∨ (By < Cy ∧ Cy ≤ Ay)) = ((x1 != x2) || (x3 != x4)) := by
        rw [← hx1, ← hx2, ← hx3, ← hx4, Bool.eq_iff_iff, decide_eq_true_iff]
        simp
        omega
      clear hx1 hx2 hx3 hx4
      go_quiet (fail)
      go_wp2
      go_quiet (fail)
      go_upto_region 30 with (go_at_call 143; refine (eqZ_c t3 _).mono ?_; rw [decide_eq_true n0]; rintro e w' ⟨rfl, rfl⟩)
      go_cut [238] from 210 to 238 (fun c wy => c = .bool (!((x1 != x2) || (x3 != x4))) ∧ ∃ k, wy = wc.drewN k)
      case first =>
        cases x1 <;> cases x2
        case false.true => (go_wp2; go_meet; exact ⟨rfl, _, rfl⟩)
        case true.false => (go_wp2; go_meet; exact ⟨rfl, _, rfl⟩)
        all_goals (cases x3 <;> cases x4)
        all_goals (go_wp2; go_meet; exact ⟨rfl, _, rfl⟩)
      case rest =>
        obtain ⟨rfl, k, rfl⟩ := hcut
        have st2 := st1.drewN k
        by_cases hP : (Ax < Cx ∧ Cx ≤ Bx) ∨ (Bx < Cx ∧ Cx ≤ Ax) ∨ (Ay < Cy ∧ Cy ≤ By) ∨ (By < Cy ∧ Cy ≤ Ay)
        case pos =>
          rw [← hP0, decide_eq_true hP]
          go_wp2
          go_ret
          exact SisX.mk _ rfl (hsx.trans (by rw [on_of h1 hP]; rfl)) st2.hb
        rw [← hP0, decide_eq_false hP]
        have hfo := fieldOn
        go_wp2_with (go_at_call 106; refine PF.Stop0.out ?_)
        refine ⟨?_⟩
        refine (raycast_c hax hay hbx hby hcx hcy (by omega) _).mono ?_
        rintro e w1 ⟨rfl, hb⟩
        have st3 := st2.ext hb
        clear hb
        cases ho1 : rcOn Ax Ay Bx By Cx Cy with
        | true =>
          go_wp2
          go_ret
          exact SisX.mk _ rfl (hsx.trans (by rw [ho1]; rfl)) st3.hb
        | false =>
          have vkt0 := st3.cell 4 rfl 0
          have vkt1 := st3.cell 4 rfl 1
          have vkt2 := st3.cell 4 rfl 2
          have vkt3 := st3.cell 4 rfl 3
          have vks0 := st3.cell 5 rfl 0
          have vks1 := st3.cell 5 rfl 1
          have vks2 := st3.cell 5 rfl 2
          have vks3 := st3.cell 5 rfl 3
          simp only [List.getElem?_toArray, List.getElem?_cons_zero, List.getElem?_cons_succ] at vkt0 vkt1 vkt2 vkt3 vks0 vks1 vks2 vks3
          go_wp2_with (go_at_call 106; refine PF.Stop0.out ?_)
          refine ⟨?_⟩
          refine (raycast_c hax hay hbx hby hdx hdy (by omega) _).mono ?_
          rintro e w2 ⟨rfl, hb⟩
          have st4 := st3.ext hb
          clear hb
          generalize ho2 : rcOn Ax Ay Bx By Dx Dy = on2
          go_wp2
          go_ret
          exact SisX.mk _ rfl (hsx.trans (by rw [ho1, ho2]; rfl)) st4.hb
end Go.Proofs.YtlpibeloedfbdaaGreat
set_option linter.unusedSimpArgs false
set_option linter.unusedVariables false
namespace Go.Proofs.YtlpibeloedfbdaaGreat
open Go.RowKit PF JR

set_option maxHeartbeats 4000000 in
set_option maxRecDepth 100000 in
theorem six_gen {ax ay bx bY cx cy dx dy : Nat} {Ax Ay Bx By Cx Cy Dx Dy : Int} (hax : Rep ax Ax) (hay : Rep ay Ay) (hbx : Rep bx Bx) (hby : Rep bY By) (hcx : Rep cx Cx) (hcy : Rep cy Cy) (hdx : Rep dx Dx) (hdy : Rep dy Dy)
    (b1 : -12288 ≤ Ax ∧ Ax ≤ 12288 ∧ -12288 ≤ Ay ∧ Ay ≤ 12288 ∧ -12288 ≤ Bx ∧ Bx ≤ 12288 ∧ -12288 ≤ By ∧ By ≤ 12288) (b2 : -12288 ≤ Cx ∧ Cx ≤ 12288 ∧ -12288 ≤ Cy ∧ Cy ≤ 12288 ∧ -12288 ≤ Dx ∧ Dx ≤ 12288 ∧ -12288 ≤ Dy ∧ Dy ≤ 12288) (hy : ¬ ((Ay < Cy ∧ Ay < Dy ∧ By < Cy ∧ By < Dy) ∨ (Cy < Ay ∧ Cy < By ∧ Dy < Ay ∧ Dy < By))) (hx : ¬ ((Ax < Cx ∧ Ax < Dx ∧ Bx < Cx ∧ Bx < Dx) ∨ (Cx < Ax ∧ Cx < Bx ∧ Dx < Ax ∧ Dx < Bx))) (hE : ¬ ((Ax = Cx ∧ Ay = Cy) ∨ (Ax = Dx ∧ Ay = Dy) ∨ (Bx = Cx ∧ By = Cy) ∨ (Bx = Dx ∧ By = Dy))) (h1 : side Ax Ay Bx By Cx Cy ≠ 0) (w : World) :
    Calls Tryz.prog 139 #[.agg #[fl ax, fl ay, fl bx, fl bY], .agg #[fl cx, fl cy, fl dx, fl dy]] w (SisX Ax Ay Bx By Cx Cy Dx Dy w) := by
  have hsx := sx_gen hy hx hE h1
  have st0 := ((Blk.nil w).push rfl #[fl ax, fl ay, fl bx, fl bY] 73).push (b := w.heap.size + 1) (by simp) #[fl cx, fl cy, fl dx, fl dy] 73
  have zt0 := st0.cell 0 rfl 0
  have zt1 := st0.cell 0 rfl 1
  have zt2 := st0.cell 0 rfl 2
  have zt3 := st0.cell 0 rfl 3
  have zs0 := st0.cell 1 rfl 0
  have zs1 := st0.cell 1 rfl 1
  have zs2 := st0.cell 1 rfl 2
  have zs3 := st0.cell 1 rfl 3
  simp only [List.getElem?_toArray, List.getElem?_cons_zero, List.getElem?_cons_succ] at zt0 zt1 zt2 zt3 zs0 zs1 zs2 zs3
  go_enter Tryz.func139, Tryz.ntmps139
  go_wp2
  refine wp_region_K [] [.val (.pointer (some ⟨w.heap.size, 0, none⟩)),
      .val (.agg #[fl ax, fl ay]),
      .val (.pointer (some ⟨w.heap.size, 2, none⟩)),
      .val (.agg #[fl bx, fl bY]),
      .val (.pointer (some ⟨w.heap.size + 1, 0, none⟩)),
      .val (.agg #[fl cx, fl cy]),
      .val (.pointer (some ⟨w.heap.size + 1, 2, none⟩)),
      .val (.agg #[fl dx, fl dy]),
      .made 50 2,
      .made 50 2,
      .made 50 2,
      .made 50 2,
      .filled 5 #[fl ax, fl ay] 50,
      .filled 6 #[fl bx, fl bY] 50,
      .filled 7 #[fl cx, fl cy] 50,
      .filled 8 #[fl dx, fl dy] 50]
    [[.ini 2], [.frm 0 21], [.ini 2], [.frm 2 23], [.ini 3], [.frm 4 25], [.ini 3], [.frm 6 27], [], [], [], [], [.frm 8 5, .frm 1 22], [.frm 9 6, .frm 3 24], [.frm 10 7, .frm 5 26], [.frm 11 8, .frm 7 28]]
    mixed (by kernel_rfl) (by kernel_rfl) (allPre_of ⟨trivial, trivial, trivial, trivial, trivial, trivial, trivial, trivial, trivial, trivial, trivial, trivial, trivial, trivial, trivial, trivial, trivial⟩)
    ⟨OpOk.quiet rfl ?_,
      OpOk.quiet rfl ?_,
      OpOk.quiet rfl ?_,
      OpOk.quiet rfl ?_,
      OpOk.quiet rfl ?_,
      OpOk.quiet rfl ?_,
      OpOk.quiet rfl ?_,
      OpOk.quiet rfl ?_,
      OpOk.made (cs := #[fl 0, fl 0]) rfl rfl ?_,
      OpOk.made (cs := #[fl 0, fl 0]) rfl rfl ?_,
      OpOk.made (cs := #[fl 0, fl 0]) rfl rfl ?_,
      OpOk.made (cs := #[fl 0, fl 0]) rfl rfl ?_,
      OpOk.fillRow (k := 8) rfl rfl (by kernel_rfl) rfl (oldLt_of ⟨(fun _ h => (nomatch h)), (fun _ h => (nomatch h)), (fun _ h => (nomatch h)), (fun _ h => (nomatch h)), (fun _ h => (nomatch h)), (fun _ h => (nomatch h)), (fun _ h => (nomatch h)), (fun _ h => (nomatch h)), (fun _ h => (nomatch h)), (fun _ h => (nomatch h)), (fun _ h => (nomatch h)), (fun _ h => (nomatch h)), (fun _ h => (nomatch h)), (fun _ h => (nomatch h)), (fun _ h => (nomatch h)), (fun _ h => (nomatch h)), trivial⟩) (by kernel_rfl) (by simp [Value.oneCell']) (fun a w hf => ⟨hf.1, hf.2.1.elim fun _ h => h.elim fun _ h => h⟩) (fun _ _ _ h hb => Keep.setRow h (.inl hb)),
      OpOk.fillRow (k := 9) rfl rfl (by kernel_rfl) rfl (oldLt_of ⟨(fun _ h => (nomatch h)), (fun _ h => (nomatch h)), (fun _ h => (nomatch h)), (fun _ h => (nomatch h)), (fun _ h => (nomatch h)), (fun _ h => (nomatch h)), (fun _ h => (nomatch h)), (fun _ h => (nomatch h)), (fun _ h => (nomatch h)), (fun _ h => (nomatch h)), (fun _ h => (nomatch h)), (fun _ h => (nomatch h)), (fun _ h => (nomatch h)), (fun _ h => (nomatch h)), (fun _ h => (nomatch h)), (fun _ h => (nomatch h)), trivial⟩) (by kernel_rfl) (by simp [Value.oneCell']) (fun a w hf => ⟨hf.1, hf.2.1.elim fun _ h => h.elim fun _ h => h⟩) (fun _ _ _ h hb => Keep.setRow h (.inl hb)),
      OpOk.fillRow (k := 10) rfl rfl (by kernel_rfl) rfl (oldLt_of ⟨(fun _ h => (nomatch h)), (fun _ h => (nomatch h)), (fun _ h => (nomatch h)), (fun _ h => (nomatch h)), (fun _ h => (nomatch h)), (fun _ h => (nomatch h)), (fun _ h => (nomatch h)), (fun _ h => (nomatch h)), (fun _ h => (nomatch h)), (fun _ h => (nomatch h)), (fun _ h => (nomatch h)), (fun _ h => (nomatch h)), (fun _ h => (nomatch h)), (fun _ h => (nomatch h)), (fun _ h => (nomatch h)), (fun _ h => (nomatch h)), trivial⟩) (by kernel_rfl) (by simp [Value.oneCell']) (fun a w hf => ⟨hf.1, hf.2.1.elim fun _ h => h.elim fun _ h => h⟩) (fun _ _ _ h hb => Keep.setRow h (.inl hb)),
      OpOk.fillRow (k := 11) rfl rfl (by kernel_rfl) rfl (oldLt_of ⟨(fun _ h => (nomatch h)), (fun _ h => (nomatch h)), (fun _ h => (nomatch h)), (fun _ h => (nomatch h)), (fun _ h => (nomatch h)), (fun _ h => (nomatch h)), (fun _ h => (nomatch h)), (fun _ h => (nomatch h)), (fun _ h => (nomatch h)), (fun _ h => (nomatch h)), (fun _ h => (nomatch h)), (fun _ h => (nomatch h)), (fun _ h => (nomatch h)), (fun _ h => (nomatch h)), (fun _ h => (nomatch h)), (fun _ h => (nomatch h)), trivial⟩) (by kernel_rfl) (by simp [Value.oneCell']) (fun a w hf => ⟨hf.1, hf.2.1.elim fun _ h => h.elim fun _ h => h⟩) (fun _ _ _ h hb => Keep.setRow h (.inl hb)), trivial⟩ ?_
  · intro a u _ hf
    simp [facts, Need.fact, Act.eval] at hf
    go_simp
  · intro a u hG hf
    simp [facts, Need.fact, Ent.val, Act.eval] at hf
    have hc := True.intro
    have qt0 := (hG.cell (p := ⟨w.heap.size + 1, 0, none⟩) (st0.lt 0 rfl) (by simp)).trans zt0
    have qt1 := (hG.cell (p := ⟨w.heap.size + 1, 1, none⟩) (st0.lt 0 rfl) (by simp)).trans zt1
    have qt2 := (hG.cell (p := ⟨w.heap.size + 1, 2, none⟩) (st0.lt 0 rfl) (by simp)).trans zt2
    have qt3 := (hG.cell (p := ⟨w.heap.size + 1, 3, none⟩) (st0.lt 0 rfl) (by simp)).trans zt3
    have qs0 := (hG.cell (p := ⟨w.heap.size, 0, none⟩) (st0.lt 1 rfl) (by simp)).trans zs0
    have qs1 := (hG.cell (p := ⟨w.heap.size, 1, none⟩) (st0.lt 1 rfl) (by simp)).trans zs1
    have qs2 := (hG.cell (p := ⟨w.heap.size, 2, none⟩) (st0.lt 1 rfl) (by simp)).trans zs2
    have qs3 := (hG.cell (p := ⟨w.heap.size, 3, none⟩) (st0.lt 1 rfl) (by simp)).trans zs3

    go_simp
  · intro a u _ hf
    simp [facts, Need.fact, Act.eval] at hf
    go_simp
  · intro a u hG hf
    simp [facts, Need.fact, Ent.val, Act.eval] at hf
    have hc := True.intro
    have qt0 := (hG.cell (p := ⟨w.heap.size + 1, 0, none⟩) (st0.lt 0 rfl) (by simp)).trans zt0
    have qt1 := (hG.cell (p := ⟨w.heap.size + 1, 1, none⟩) (st0.lt 0 rfl) (by simp)).trans zt1
    have qt2 := (hG.cell (p := ⟨w.heap.size + 1, 2, none⟩) (st0.lt 0 rfl) (by simp)).trans zt2
    have qt3 := (hG.cell (p := ⟨w.heap.size + 1, 3, none⟩) (st0.lt 0 rfl) (by simp)).trans zt3
    have qs0 := (hG.cell (p := ⟨w.heap.size, 0, none⟩) (st0.lt 1 rfl) (by simp)).trans zs0
    have qs1 := (hG.cell (p := ⟨w.heap.size, 1, none⟩) (st0.lt 1 rfl) (by simp)).trans zs1
    have qs2 := (hG.cell (p := ⟨w.heap.size, 2, none⟩) (st0.lt 1 rfl) (by simp)).trans zs2
    have qs3 := (hG.cell (p := ⟨w.heap.size, 3, none⟩) (st0.lt 1 rfl) (by simp)).trans zs3

    go_simp
  · intro a u _ hf
    simp [facts, Need.fact, Act.eval] at hf
    go_simp
  · intro a u hG hf
    simp [facts, Need.fact, Ent.val, Act.eval] at hf
    have hc := True.intro
    have qt0 := (hG.cell (p := ⟨w.heap.size + 1, 0, none⟩) (st0.lt 0 rfl) (by simp)).trans zt0
    have qt1 := (hG.cell (p := ⟨w.heap.size + 1, 1, none⟩) (st0.lt 0 rfl) (by simp)).trans zt1
    have qt2 := (hG.cell (p := ⟨w.heap.size + 1, 2, none⟩) (st0.lt 0 rfl) (by simp)).trans zt2
    have qt3 := (hG.cell (p := ⟨w.heap.size + 1, 3, none⟩) (st0.lt 0 rfl) (by simp)).trans zt3
    have qs0 := (hG.cell (p := ⟨w.heap.size, 0, none⟩) (st0.lt 1 rfl) (by simp)).trans zs0
    have qs1 := (hG.cell (p := ⟨w.heap.size, 1, none⟩) (st0.lt 1 rfl) (by simp)).trans zs1
    have qs2 := (hG.cell (p := ⟨w.heap.size, 2, none⟩) (st0.lt 1 rfl) (by simp)).trans zs2
    have qs3 := (hG.cell (p := ⟨w.heap.size, 3, none⟩) (st0.lt 1 rfl) (by simp)).trans zs3

    go_simp
  · intro a u _ hf
    simp [facts, Need.fact, Act.eval] at hf
    go_simp
  · intro a u hG hf
    simp [facts, Need.fact, Ent.val, Act.eval] at hf
    have hc := True.intro
    have qt0 := (hG.cell (p := ⟨w.heap.size + 1, 0, none⟩) (st0.lt 0 rfl) (by simp)).trans zt0
    have qt1 := (hG.cell (p := ⟨w.heap.size + 1, 1, none⟩) (st0.lt 0 rfl) (by simp)).trans zt1
    have qt2 := (hG.cell (p := ⟨w.heap.size + 1, 2, none⟩) (st0.lt 0 rfl) (by simp)).trans zt2
    have qt3 := (hG.cell (p := ⟨w.heap.size + 1, 3, none⟩) (st0.lt 0 rfl) (by simp)).trans zt3
    have qs0 := (hG.cell (p := ⟨w.heap.size, 0, none⟩) (st0.lt 1 rfl) (by simp)).trans zs0
    have qs1 := (hG.cell (p := ⟨w.heap.size, 1, none⟩) (st0.lt 1 rfl) (by simp)).trans zs1
    have qs2 := (hG.cell (p := ⟨w.heap.size, 2, none⟩) (st0.lt 1 rfl) (by simp)).trans zs2
    have qs3 := (hG.cell (p := ⟨w.heap.size, 3, none⟩) (st0.lt 1 rfl) (by simp)).trans zs3

    go_simp
  · intro a u _ _
    go_simp
  · intro a u _ _
    go_simp
  · intro a u _ _
    go_simp
  · intro a u _ _
    go_simp
  intro u lw hw wx hK hE hI hD
  simp [allE, allPut, Act.put, Act.eval, Ent.filledP, Ent.made, Ent.val] at hE
  obtain ⟨u0, u1, u2, u3, u4, u5, u6, u7, ⟨b8, u8, l8, h8, -⟩, ⟨b9, u9, l9, h9, -⟩, ⟨b10, u10, l10, h10, -⟩, ⟨b11, u11, l11, h11, -⟩, ⟨c12, v12, g12⟩, ⟨c13, v13, g13⟩, ⟨c14, v14, g14⟩, ⟨c15, v15, g15⟩⟩ := hE
  obtain rfl : b8 = c12 := by rw [u8] at v12; simpa using v12
  obtain rfl : b9 = c13 := by rw [u9] at v13; simpa using v13
  obtain rfl : b10 = c14 := by rw [u10] at v14; simpa using v14
  obtain rfl : b11 = c15 := by rw [u11] at v15; simpa using v15
  simp only [allPut, Act.put, u0, u1, u2, u3, u4, u5, u6, u7, u8, u9, u10, u11]
  clear u0 u1 u2 u3 u4 u5 u6 u7 u8 u9 u10 u11 v12 v13 v14 v15
  have st1 := ((((st0.keep hK (fun i x _ => by simp) (fun x hx => by simp at hx)).add g15).add g14).add g13).add g12
  clear zt0 zt1 zt2 zt3 zs0 zs1 zs2 zs3 hK hI hD g12 g13 g14 g15 st0 l8 l9 l10 l11 h8 h9 h10 h11
  have ka0 := st1.cell 0 rfl 0
  have ka1 := st1.cell 0 rfl 1
  have kb0 := st1.cell 1 rfl 0
  have kb1 := st1.cell 1 rfl 1
  have kc0 := st1.cell 2 rfl 0
  have kc1 := st1.cell 2 rfl 1
  have kd0 := st1.cell 3 rfl 0
  have kd1 := st1.cell 3 rfl 1
  have kt0 := st1.cell 4 rfl 0
  have kt1 := st1.cell 4 rfl 1
  have kt2 := st1.cell 4 rfl 2
  have kt3 := st1.cell 4 rfl 3
  have ks0 := st1.cell 5 rfl 0
  have ks1 := st1.cell 5 rfl 1
  have ks2 := st1.cell 5 rfl 2
  have ks3 := st1.cell 5 rfl 3
  simp only [List.getElem?_toArray, List.getElem?_cons_zero, List.getElem?_cons_succ] at ka0 ka1 kb0 kb1 kc0 kc1 kd0 kd1 kt0 kt1 kt2 kt3 ks0 ks1 ks2 ks3
  have hB := st1.hb
  have oaby := oR hay hby
  go_upto_if 33 with (fail)
  go_cut [] from 29 to 91 (fun wy => wy = wx)
  case first =>
    try clear hE
    try clear h1
    clear hx
    have ocdy := oR hcy hdy
    have oacy := oR hay hcy
    have oady := oR hay hdy
    have obcy := oR hby hcy
    have obdy := oR hby hdy
    by_cases p1 : By < Ay
    · have d1 := decide_eq_true p1
      by_cases p2 : Dy < Cy
      · have d2 := decide_eq_true p2
        have n3 : ¬ Cy < By := by omega
        have n4 : ¬ Ay < Dy := by omega
        have d3 := decide_eq_false n3
        have d4 := decide_eq_false n4
        clear hy
        go_wp2
        go_meet
        rfl
      · have d2 := decide_eq_false p2
        have n3 : ¬ Dy < By := by omega
        have n4 : ¬ Ay < Cy := by omega
        have d3 := decide_eq_false n3
        have d4 := decide_eq_false n4
        clear hy
        go_wp2
        go_meet
        rfl
    · have d1 := decide_eq_false p1
      by_cases p2 : Dy < Cy
      · have d2 := decide_eq_true p2
        have n3 : ¬ Cy < Ay := by omega
        have n4 : ¬ By < Dy := by omega
        have d3 := decide_eq_false n3
        have d4 := decide_eq_false n4
        clear hy
        go_wp2
        go_meet
        rfl
      · have d2 := decide_eq_false p2
        have n3 : ¬ Dy < Ay := by omega
        have n4 : ¬ By < Cy := by omega
        have d3 := decide_eq_false n3
        have d4 := decide_eq_false n4
        clear hy
        go_wp2
        go_meet
        rfl
  case rest =>
    subst hcut
    have oabx := oR hax hbx
    go_upto_if 96 with (fail)
    go_cut [] from 92 to 154 (fun wy => wy = wc)
    case first =>
      try clear hE
      try clear h1
      clear hy
      have ocdx := oR hcx hdx
      have oacx := oR hax hcx
      have oadx := oR hax hdx
      have obcx := oR hbx hcx
      have obdx := oR hbx hdx
      by_cases p1 : Bx < Ax
      · have d1 := decide_eq_true p1
        by_cases p2 : Dx < Cx
        · have d2 := decide_eq_true p2
          have n3 : ¬ Cx < Bx := by omega
          have n4 : ¬ Ax < Dx := by omega
          have d3 := decide_eq_false n3
          have d4 := decide_eq_false n4
          clear hx
          go_wp2
          go_meet
          rfl
        · have d2 := decide_eq_false p2
          have n3 : ¬ Dx < Bx := by omega
          have n4 : ¬ Ax < Cx := by omega
          have d3 := decide_eq_false n3
          have d4 := decide_eq_false n4
          clear hx
          go_wp2
          go_meet
          rfl
      · have d1 := decide_eq_false p1
        by_cases p2 : Dx < Cx
        · have d2 := decide_eq_true p2
          have n3 : ¬ Cx < Ax := by omega
          have n4 : ¬ Bx < Dx := by omega
          have d3 := decide_eq_false n3
          have d4 := decide_eq_false n4
          clear hx
          go_wp2
          go_meet
          rfl
        · have d2 := decide_eq_false p2
          have n3 : ¬ Dx < Ax := by omega
          have n4 : ¬ Bx < Cx := by omega
          have d3 := decide_eq_false n3
          have d4 := decide_eq_false n4
          clear hx
          go_wp2
          go_meet
          rfl
    case rest =>
      subst hcut
      have e1 : ¬ (Ax = Cx ∧ Ay = Cy) := fun h => hE (by omega)
      have g1 := fun u => eqPt hax hay hcx hcy (decide_eq_false e1) u
      have e2 : ¬ (Ax = Dx ∧ Ay = Dy) := fun h => hE (by omega)
      have g2 := fun u => eqPt hax hay hdx hdy (decide_eq_false e2) u
      have e3 : ¬ (Bx = Cx ∧ By = Cy) := fun h => hE (by omega)
      have g3 := fun u => eqPt hbx hby hcx hcy (decide_eq_false e3) u
      have e4 : ¬ (Bx = Dx ∧ By = Dy) := fun h => hE (by omega)
      have g4 := fun u => eqPt hbx hby hdx hdy (decide_eq_false e4) u
      clear e1 e2 e3 e4 hy hx hE
      go_wp2_with (simp only [g1, g2, g3, g4])
      clear g1 g2 g3 g4
      obtain ⟨d1, e1, r1⟩ := subR hcx hax (by omega)
      obtain ⟨d2, e2, r2⟩ := subR hcy hay (by omega)
      obtain ⟨d3, e3, r3⟩ := subR hbx hax (by omega)
      obtain ⟨d4, e4, r4⟩ := subR hby hay (by omega)
      have k1 := bmul (a := Cx - Ax) (b := By - Ay) (by omega) (by omega)
      have k2 := bmul (a := Cy - Ay) (b := Bx - Ax) (by omega) (by omega)
      obtain ⟨m1, f1, t1⟩ := mulR r1 r4 (by omega)
      obtain ⟨m2, f2, t2⟩ := mulR r2 r3 (by omega)
      obtain ⟨z, f3, t3⟩ := subR t1 t2 (by omega)
      have hn : (Cx - Ax) * (By - Ay) - (Cy - Ay) * (Bx - Ax) = -side Ax Ay Bx By Cx Cy := id_n
      rw [hn] at t3
      generalize hn' : -side Ax Ay Bx By Cx Cy = n at t3
      clear k1 k2 t1 t2 hn
      obtain ⟨d5, e5, r5⟩ := subR hcx hbx (by omega)
      obtain ⟨d6, e6, r6⟩ := subR hcy hby (by omega)
      obtain ⟨d7, e7, r7⟩ := subR hdx hcx (by omega)
      obtain ⟨d8, e8, r8⟩ := subR hdy hcy (by omega)
      have k1 := bmul2 (a := Cx - Ax) (b := Dy - Cy) (by omega) (by omega)
      have k2 := bmul2 (a := Cy - Ay) (b := Dx - Cx) (by omega) (by omega)
      have k3 := bmul2 (a := Bx - Ax) (b := Dy - Cy) (by omega) (by omega)
      have k4 := bmul2 (a := By - Ay) (b := Dx - Cx) (by omega) (by omega)
      have k5 := bmul2 (a := Cx - Ax) (b := By - Ay) (by omega) (by omega)
      have k6 := bmul2 (a := Cy - Ay) (b := Bx - Ax) (by omega) (by omega)
      obtain ⟨m3, f4, t4⟩ := mulR r1 r8 (by omega)
      obtain ⟨m4, f5, t5⟩ := mulR r2 r7 (by omega)
      obtain ⟨z2, f6, t6⟩ := subR t4 t5 (by omega)
      obtain ⟨m5, f7, t7⟩ := mulR r3 r8 (by omega)
      obtain ⟨m6, f8, t8⟩ := mulR r4 r7 (by omega)
      obtain ⟨z3, f9, t9⟩ := subR t7 t8 (by omega)
      have hs3 : (Cx - Ax) * (Dy - Cy) - (Cy - Ay) * (Dx - Cx) = side Cx Cy Dx Dy Ax Ay := id_s
      have hm : (Bx - Ax) * (Dy - Cy) - (By - Ay) * (Dx - Cx) = side Ax Ay Bx By Dx Dy - side Ax Ay Bx By Cx Cy := id_m
      have hn2 : (Cx - Ax) * (By - Ay) - (Cy - Ay) * (Bx - Ax) = -side Ax Ay Bx By Cx Cy := id_n
      have bs3 : (side Cx Cy Dx Dy Ax Ay).natAbs < 2147483648 := by rw [← hs3]; omega
      have bm : (side Ax Ay Bx By Dx Dy - side Ax Ay Bx By Cx Cy).natAbs < 2147483648 := by rw [← hm]; omega
      have bn : (-side Ax Ay Bx By Cx Cy).natAbs < 2147483648 := by rw [← hn2]; omega
      rw [hs3] at t6
      rw [hm] at t9
      rw [hn'] at bn
      generalize hs3' : side Cx Cy Dx Dy Ax Ay = s3 at t6 bs3
      generalize hm' : side Ax Ay Bx By Dx Dy - side Ax Ay Bx By Cx Cy = m at t9 bm
      clear k1 k2 k3 k4 k5 k6 t4 t5 t7 t8 hs3 hm hn2
      have n0 : ¬ n = 0 := by omega
      go_quiet (fail)
      go_wp2
      go_quiet (fail)
      go_wp2_with (first | (go_at_call 143; refine (eqZ_c t3 _).mono ?_; rw [decide_eq_false n0]; rintro e w' ⟨rfl, rfl⟩))
      go_quiet (fail)
      by_cases h3 : m = 0
      · go_wp2_with (first | (go_at_call 143; refine (eqZ_c t9 _).mono ?_; rw [decide_eq_true h3]; rintro e w' ⟨rfl, rfl⟩))
        go_ret
        exact SisX.mk _ rfl (hsx.trans (meets_par h1 (hm'.trans h3))) (below_drewN hB _)
      · obtain ⟨q, eq, hq⟩ := div_rep rep1 t9 h3
        obtain ⟨tt, et, ht⟩ := mul_rcp t6 hq h3
        obtain ⟨uu, eu, hu⟩ := mul_rcp t3 hq h3
        have eq' : FloatKind.f64.format.div 4607182418800017408 z3 = some q := eq
        have et' : FloatKind.f64.format.mul z2 q = some tt := et
        have eu' : FloatKind.f64.format.mul z q = some uu := eu
        have hmt := meets_tu (Ax := Ax) (Ay := Ay) (Bx := Bx) (By := By) (Cx := Cx) (Cy := Cy) (Dx := Dx) (Dy := Dy) (by rw [hm']; exact h3)
        rw [hm', hn', hs3'] at hmt
        obtain ⟨c0, hc0⟩ : ∃ c, decide (0 ≤ s3 * m) = c := ⟨_, rfl⟩
        obtain ⟨c1, hc1⟩ : ∃ c, decide (s3 * m ≤ m * m) = c := ⟨_, rfl⟩
        obtain ⟨c2, hc2⟩ : ∃ c, decide (0 ≤ n * m) = c := ⟨_, rfl⟩
        obtain ⟨c3, hc3⟩ : ∃ c, decide (n * m ≤ m * m) = c := ⟨_, rfl⟩
        have w0 := rcp_geq ht rep0 h3 bm bs3 hc0
        have w1 := rcp_leq ht rep1 h3 bm bs3 hc1
        have w2 := rcp_geq hu rep0 h3 bm bn hc2
        have w3 := rcp_leq hu rep1 h3 bm bn hc3
        rw [Bool.decide_and, Bool.decide_and, Bool.decide_and, hc0, hc1, hc2, hc3] at hmt
        have d3 := decide_eq_false h3
        clear ht hu hq eq et eu hc0 hc1 hc2 hc3
        cases c0 with
        | false =>
          go_wp2_with (first | (go_at_call 143; refine (eqZ_c t9 _).mono ?_; rw [d3]; rintro e w' ⟨rfl, rfl⟩))
          go_ret
          exact SisX.mk _ rfl (hsx.trans (hmt.trans rfl)) (below_drewN hB _)
        | true =>
          cases c1 with
          | false =>
            go_wp2_with (first | (go_at_call 143; refine (eqZ_c t9 _).mono ?_; rw [d3]; rintro e w' ⟨rfl, rfl⟩))
            go_ret
            exact SisX.mk _ rfl (hsx.trans (hmt.trans rfl)) (below_drewN hB _)
          | true =>
            cases c2 with
            | false =>
              go_wp2_with (first | (go_at_call 143; refine (eqZ_c t9 _).mono ?_; rw [d3]; rintro e w' ⟨rfl, rfl⟩))
              go_ret
              exact SisX.mk _ rfl (hsx.trans (hmt.trans rfl)) (below_drewN hB _)
            | true =>
              cases c3 with
              | false =>
                go_wp2_with (first | (go_at_call 143; refine (eqZ_c t9 _).mono ?_; rw [d3]; rintro e w' ⟨rfl, rfl⟩))
                go_ret
                exact SisX.mk _ rfl (hsx.trans (hmt.trans rfl)) (below_drewN hB _)
              | true =>
                go_wp2_with (first | (go_at_call 143; refine (eqZ_c t9 _).mono ?_; rw [d3]; rintro e w' ⟨rfl, rfl⟩))
                go_ret
                exact SisX.mk _ rfl (hsx.trans (hmt.trans rfl)) (below_drewN hB _)
end Go.Proofs.YtlpibeloedfbdaaGreat
set_option linter.unusedSimpArgs false
set_option linter.unusedVariables false
namespace Go.Proofs.YtlpibeloedfbdaaGreat
open Go.RowKit PF JR

theorem six_c {ax ay bx bY cx cy dx dy : Nat} {Ax Ay Bx By Cx Cy Dx Dy : Int} (hax : Rep ax Ax) (hay : Rep ay Ay) (hbx : Rep bx Bx) (hby : Rep bY By) (hcx : Rep cx Cx) (hcy : Rep cy Cy) (hdx : Rep dx Dx) (hdy : Rep dy Dy)
    (b1 : -12288 ≤ Ax ∧ Ax ≤ 12288 ∧ -12288 ≤ Ay ∧ Ay ≤ 12288 ∧ -12288 ≤ Bx ∧ Bx ≤ 12288 ∧ -12288 ≤ By ∧ By ≤ 12288) (b2 : -12288 ≤ Cx ∧ Cx ≤ 12288 ∧ -12288 ≤ Cy ∧ Cy ≤ 12288 ∧ -12288 ≤ Dx ∧ Dx ≤ 12288 ∧ -12288 ≤ Dy ∧ Dy ≤ 12288) (w : World) :
    Calls Tryz.prog 139 #[.agg #[fl ax, fl ay, fl bx, fl bY], .agg #[fl cx, fl cy, fl dx, fl dy]] w (SisX Ax Ay Bx By Cx Cy Dx Dy w) := by
  by_cases hy : ((Ay < Cy ∧ Ay < Dy ∧ By < Cy ∧ By < Dy) ∨ (Cy < Ay ∧ Cy < By ∧ Dy < Ay ∧ Dy < By))
  · exact six_y hax hay hbx hby hcx hcy hdx hdy b1 b2 hy w
  by_cases hx : ((Ax < Cx ∧ Ax < Dx ∧ Bx < Cx ∧ Bx < Dx) ∨ (Cx < Ax ∧ Cx < Bx ∧ Dx < Ax ∧ Dx < Bx))
  · exact six_x hax hay hbx hby hcx hcy hdx hdy b1 b2 hy hx w
  by_cases hE : ((Ax = Cx ∧ Ay = Cy) ∨ (Ax = Dx ∧ Ay = Dy) ∨ (Bx = Cx ∧ By = Cy) ∨ (Bx = Dx ∧ By = Dy))
  · exact six_e hax hay hbx hby hcx hcy hdx hdy b1 b2 hy hx hE w
  by_cases h1 : side Ax Ay Bx By Cx Cy = 0
  · exact six_col hax hay hbx hby hcx hcy hdx hdy b1 b2 hy hx hE h1 w
  · exact six_gen hax hay hbx hby hcx hcy hdx hdy b1 b2 hy hx hE h1 w
end Go.Proofs.YtlpibeloedfbdaaGreat
