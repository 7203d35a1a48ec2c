import Derived.Test.YtdlcckkphjpeoaaGreatQC
import Derived.Test.YtdlcckkphjpeoaaGreatAwake
import Derived.Test.YtdlcckkphjpeoaaGreatJd
set_option linter.unusedSimpArgs false
set_option linter.unusedVariables false
/-! FnRaycastSum: the walk. hir: impl.Raycast; hray: Segment.Raycast. -/
namespace Go.Proofs.YtdlcckkphjpeoaaGreat
open Go.RowKit PF JR
/-- a point that Segment.Raycast is proved for -/
def Bn4 (p : Int × Int) : Prop := p.1.natAbs ≤ 16384 ∧ p.2.natAbs ≤ 16384
theorem at_bn4 {l : List (Int × Int)} (h : ∀ p ∈ l, Bn4 p) (k : Nat) : Bn4 (at' l k) := by
  rcases Nat.lt_or_ge k l.length with h1 | h1
  · exact h _ (List.mem_of_getElem? (at_get h1))
  · unfold at' Bn4; simp [List.getD, List.getElem?_eq_none h1]
set_option maxRecDepth 100000 in
set_option maxHeartbeats 8000000 in
theorem raySum_c (KD : Nat) (hKD : KD ≤ 255) (l : List (Int × Int)) (p : Int × Int) (v : Value) (w : World) (hv : SlP w v l) (hl0 : l.length ≤ 9223372036854775807)
    (hir : ∀ (a b q : Int × Int), Bn4 a → Bn4 b → Bn4 q → ∀ u, Calls Tryz.prog 13 #[.agg #[.int .i64 a.1, .int .i64 a.2], .agg #[.int .i64 b.1, .int .i64 b.2], .agg #[.int .i64 q.1, .int .i64 q.2]] u fun e w' => e = .returned (.tuple #[.bool (rcIn a.1 a.2 b.1 b.2 q.1 q.2), .bool (rcOn a.1 a.2 b.1 b.2 q.1 q.2)]) ∧ Below u.heap.size u w')
    (hray : (∀ q ∈ l, Bn4 q) → Bn4 p → ∀ k, k < nSeg true l → RayAt l p k) :
    Calls Tryz.prog 4 #[v, .agg #[.int .i64 p.1, .int .i64 p.2], .int .u8 KD] w fun e w' => e = .returned (.bool true) ∧ Below w.heap.size w w' := by
  have st0 := (Blk.nil w).push rfl #[.int .i64 p.1, .int .i64 p.2] 29
  have s0 := hv.below st0.hb
  obtain ⟨A0, c0, rfl⟩ : ∃ A c, v = .slice A l.length c := by obtain ⟨A, c, h, -⟩ := hv; exact ⟨A, c, h⟩
  clear hv
  rcases Nat.lt_or_ge 2147483647 l.length with hbig | l1
  · have hbig' : (2147483647 : Int) < (l.length : Int) := by omega
    generalize l.length = n at *
    go_enter Tryz.func4, Tryz.ntmps4
    go_wp2
    go_ret
    exact ⟨rfl, st0.hb⟩
  have l2 : ¬ (2147483647 : Int) < (l.length : Int) := by omega
  have hvp := varyPoints_c l 3 12 l1 (.slice A0 l.length c0) _ s0
  generalize hvo : decide ((3 : Int) ≤ l.length ∧ (l.length : Int) ≤ 12 ∧ l.all okP = true) = vo at *
  go_enter Tryz.func4, Tryz.ntmps4
  go_wp2_with (go_at_call 9; refine JR.StopM.out ?_)
  refine ⟨?_⟩
  refine hvp.mono ?_
  rintro e w1 ⟨rfl, hb⟩
  have st1 := st0.ext hb
  have s1 := s0.below hb
  clear hb st0 s0 hvp
  have b0 := st1.cell 0 rfl 0
  have b1 := st1.cell 0 rfl 1
  simp only [List.getElem?_toArray, List.getElem?_cons_zero, List.getElem?_cons_succ] at b0 b1
  cases vo with
  | false =>
    clear hvo
    go_wp2_with (go_at_call 10; refine JR.StopM.out ?_)
    refine ⟨?_⟩
    refine (awake_c _).mono ?_
    rintro e wA ⟨rfl, hbA⟩
    have stA := st1.ext hbA
    go_wp2
    go_ret
    exact ⟨rfl, stA.hb⟩
  | true =>
    have hvo := of_decide_eq_true hvo
    have st2 := st1.push (b := w1.heap.size) rfl #[.int .i64 p.1, .int .i64 p.2] 29
    have sp : SlP (w1.alloc (.cells #[.int .i64 p.1, .int .i64 p.2] 29)) (.slice (some ⟨w1.heap.size, 0, none⟩) 1 1) [p] := by
      refine ⟨_, 1, rfl, fun k q hq => ?_⟩
      rcases k with _ | k
      · simp at hq
        subst hq
        have c0 := st2.cell 0 rfl 0
        have c1 := st2.cell 0 rfl 1
        simp only [List.getElem?_toArray, List.getElem?_cons_zero, List.getElem?_cons_succ] at c0 c1
        exact ⟨_, 0, rfl, by simp, by simp⟩
      · simp at hq
    have hvp := varyPoints_c [p] 1 1 (by simp) _ _ sp
    generalize hvq : decide ((1 : Int) ≤ [p].length ∧ ([p].length : Int) ≤ 1 ∧ [p].all okP = true) = vq at *
    go_wp2_with (go_at_call 9; refine JR.StopM.out ?_)
    refine ⟨?_⟩
    refine hvp.mono ?_
    rintro e w2 ⟨rfl, hb⟩
    have st3 := st1.ext (((Below.refl _ w1).alloc (Nat.le_refl _) (.cells #[.int .i64 p.1, .int .i64 p.2] 29)).trans (hb.mono (by simp)))
    have s3 := s1.below (((Below.refl _ w1).alloc (Nat.le_refl _) (.cells #[.int .i64 p.1, .int .i64 p.2] 29)).trans (hb.mono (by simp)))
    clear hb st1 st2 sp hvp b0 b1 s1
    cases vq with
    | false =>
      clear hvo hvq
      go_wp2_with (go_at_call 10; refine JR.StopM.out ?_)
      refine ⟨?_⟩
      refine (awake_c _).mono ?_
      rintro e wA ⟨rfl, hbA⟩
      have stA := st3.ext hbA
      go_wp2
      go_ret
      exact ⟨rfl, stA.hb⟩
    | true =>
      have hn12 : 3 ≤ l.length ∧ l.length ≤ 12 := by omega
      have hbl0 : ∀ q ∈ l, Bnd q := fun q hq => by
        have := List.all_eq_true.1 hvo.2.2 q hq
        simp [okP] at this
        unfold Bnd; omega
      have hpb0 : Bnd p := by
        have := of_decide_eq_true hvq
        simp [okP] at this
        unfold Bnd; omega
      have hbl4 : ∀ q ∈ l, Bn4 q := fun q hq => by
        have := List.all_eq_true.1 hvo.2.2 q hq
        simp [okP] at this
        unfold Bn4; omega
      have hpb4 : Bn4 p := by
        have := of_decide_eq_true hvq
        simp [okP] at this
        unfold Bn4; omega
      have hray := hray hbl4 hpb4
      clear hvo hvq
      have B4 : Below w2.heap.size w2 w2 := Below.refl _ _
      go_wp2
      go_loopw [7, 8, 30] (fun o y i wr => ∃ k : Nat, k ≤ l.length ∧ o = .bool (xrs l p k) ∧ y = .bool (aon l p k) ∧ i = .int .i64 k ∧ Below w2.heap.size w2 wr) (fun _ _ i _ => l.length - (intOf i).toNat)
      case atStart => exact ⟨0, Nat.zero_le _, rfl, rfl, rfl, Below.refl _ _⟩
      case round =>
        obtain ⟨k, hkl, rfl, rfl, rfl, hB⟩ := hrel
        rcases Nat.lt_or_ge k l.length with hlt | hge
        · have hlt' : (k : Int) < (l.length : Int) := by omega
          have sr := s3.below hB
          obtain ⟨A, c, hA, hk⟩ := sr
          obtain ⟨b, off, rfl, h1, h2⟩ := hk k (at' l k) (at_get hlt)
          obtain ⟨rfl, rfl⟩ : A0 = some ⟨b, off, none⟩ ∧ c0 = c := by simpa using hA
          obtain ⟨j, hj, hjl, hjn⟩ : ∃ j : Nat, ((k : Int) + 1).tmod (l.length : Int) = (j : Int) ∧ j < l.length ∧ nxp l k = at' l j := by
            rcases Nat.lt_or_ge (k + 1) l.length with g | g
            · exact ⟨k + 1, by rw [Int.tmod_eq_of_lt (by omega) (by omega)]; rfl, g, nxp_mid g⟩
            · exact ⟨0, by rw [show (k : Int) + 1 = l.length by omega, Int.tmod_self]; rfl, by omega, nxp_end (by omega)⟩
          obtain ⟨b', off', hA2, h3, h4⟩ := hk j (at' l j) (at_get hjl)
          cases hA2
          have hn0 : (l.length : Int) ≠ 0 := by omega
          have hjl' : (j : Int) < (l.length : Int) := by omega
          have stk := (st3.ext hB).push rfl #[.int .i64 (at' l k).1, .int .i64 (at' l k).2] 29
          have hBk := hB.alloc hB.size (.cells #[.int .i64 (at' l k).1, .int .i64 (at' l k).2] 29)
          have ha1 := (Below.heap_alloc wr (.cells #[.int .i64 (at' l k).1, .int .i64 (at' l k).2] 29) b (World.block_lt_of_cell? wr _ h3))
          have g3 := (World.cell?_of_block (a := ⟨b, off + j * 2, none⟩) ha1).trans h3
          have g4 := (World.cell?_of_block (a := ⟨b, off + j * 2 + 1, none⟩) ha1).trans h4
          have hbl := World.block_lt_of_cell? _ _ g3
          have wk : IntKind.i64.wrap ((k : Int) + 1) = (k : Int) + 1 := by
            unfold IntKind.wrap
            simp [IntKind.bits, IntKind.signed]
            omega
          have hle : ¬ l = [] := by intro h; subst h; simp at hlt
          clear hk h3 h4 ha1
          go_wp2
          generalize hW9 : wr.alloc (.cells #[.int .i64 (at' l k).1, .int .i64 (at' l k).2] 29) = W9 at *
          refine wp_region_K [] [.val (.agg #[.int .i64 (at' l k).1, .int .i64 (at' l k).2]), .val (.slice (some ⟨b, off, none⟩) l.length c0), .val (.int .i64 k), .val (.int .i64 ((k : Int) + 1)), .val (.slice (some ⟨b, off, none⟩) l.length c0), .val (.int .i64 l.length), .val (.int .i64 j), .val (.pointer (some ⟨b, off + j * 2, none⟩)),
              .val (.agg #[.int .i64 (at' l j).1, .int .i64 (at' l j).2]), .val (.agg #[.int .i64 p.1, .int .i64 p.2]), .val (.tuple #[.bool (rin l p k), .bool (ron l p k)]), .val (.tuple #[.bool (rin l p k), .bool (ron l p k)]), .val (.bool (rin l p k)), .val (.bool (ron l p k)), .val (.bool (rin l p k)), .val (.bool (ron l p k))]
            [[.ini 10], [.ini 0], [.ini 9], [.frm 2 38], [.ini 0], [.frm 4 40], [.frm 3 39, .frm 5 41], [.frm 1 37, .frm 6 42], [.frm 7 43], [.ini 4], [.frm 0 36, .frm 8 44, .frm 9 45], [.frm 10 46], [.frm 11 35], [.frm 11 35], [.frm 12 47], [.frm 13 48]]
            mixed (by kernel_rfl) (by kernel_rfl) (allPre_of ⟨trivial, trivial, trivial, trivial, trivial, trivial, trivial, trivial, trivial, trivial, trivial, trivial, trivial, trivial, trivial, trivial, trivial⟩)
            ⟨OpOk.quiet rfl ?_, OpOk.quiet rfl ?_, OpOk.quiet rfl ?_, OpOk.quiet rfl ?_, OpOk.quiet rfl ?_, OpOk.quiet rfl ?_, OpOk.quiet rfl ?_, OpOk.quiet rfl ?_, OpOk.quiet rfl ?_, OpOk.quiet rfl ?_, OpOk.call rfl ?_, OpOk.quiet rfl ?_, OpOk.quiet rfl ?_, OpOk.quiet rfl ?_, OpOk.quiet rfl ?_, OpOk.quiet rfl ?_, trivial⟩ ?_
          · intro a u hG hf
            simp [facts, Need.fact, Ent.val, Act.eval] at hf
            have stu := stk.keep hG (fun i x _ => by simp) (fun x hx => by simp at hx)
            have y0 := stu.cell 0 rfl 0
            have y1 := stu.cell 0 rfl 1
            have y2 := stu.cell 1 rfl 0
            have y3 := stu.cell 1 rfl 1
            have y4 := (hG.cell (p := ⟨b, off + j * 2, none⟩) hbl (by simp)).trans g3
            have y5 := (hG.cell (p := ⟨b, off + j * 2 + 1, none⟩) hbl (by simp)).trans g4
            simp only [List.getElem?_toArray, List.getElem?_cons_zero, List.getElem?_cons_succ] at y0 y1 y2 y3
            go_simp
          · intro a u hG hf
            simp [facts, Need.fact, Ent.val, Act.eval] at hf
            go_simp
          · intro a u hG hf
            simp [facts, Need.fact, Ent.val, Act.eval] at hf
            go_simp
          · intro a u hG hf
            simp [facts, Need.fact, Ent.val, Act.eval] at hf
            go_simp
          · intro a u hG hf
            simp [facts, Need.fact, Ent.val, Act.eval] at hf
            go_simp
          · intro a u hG hf
            simp [facts, Need.fact, Ent.val, Act.eval] at hf
            go_simp
          · intro a u hG hf
            simp [facts, Need.fact, Ent.val, Act.eval] at hf
            go_simp
          · intro a u hG hf
            simp [facts, Need.fact, Ent.val, Act.eval] at hf
            go_simp
          · intro a u hG hf
            simp [facts, Need.fact, Ent.val, Act.eval] at hf
            have stu := stk.keep hG (fun i x _ => by simp) (fun x hx => by simp at hx)
            have y0 := stu.cell 0 rfl 0
            have y1 := stu.cell 0 rfl 1
            have y2 := stu.cell 1 rfl 0
            have y3 := stu.cell 1 rfl 1
            have y4 := (hG.cell (p := ⟨b, off + j * 2, none⟩) hbl (by simp)).trans g3
            have y5 := (hG.cell (p := ⟨b, off + j * 2 + 1, none⟩) hbl (by simp)).trans g4
            simp only [List.getElem?_toArray, List.getElem?_cons_zero, List.getElem?_cons_succ] at y0 y1 y2 y3
            go_simp
          · intro a u hG hf
            simp [facts, Need.fact, Ent.val, Act.eval] at hf
            have stu := stk.keep hG (fun i x _ => by simp) (fun x hx => by simp at hx)
            have y0 := stu.cell 0 rfl 0
            have y1 := stu.cell 0 rfl 1
            have y2 := stu.cell 1 rfl 0
            have y3 := stu.cell 1 rfl 1
            have y4 := (hG.cell (p := ⟨b, off + j * 2, none⟩) hbl (by simp)).trans g3
            have y5 := (hG.cell (p := ⟨b, off + j * 2 + 1, none⟩) hbl (by simp)).trans g4
            simp only [List.getElem?_toArray, List.getElem?_cons_zero, List.getElem?_cons_succ] at y0 y1 y2 y3
            go_simp
          · intro a u _ hf
            simp [facts, Need.fact, Ent.val, Act.eval] at hf
            refine ⟨_, _, by go_simp, (hir (at' l k) (at' l j) p ?_ ?_ ?_ u).mono ?_⟩
            · exact at_bn4 hbl4 k
            · exact at_bn4 hbl4 j
            · exact hpb4
            rintro e w' ⟨rfl, hb⟩
            rw [← hjn]
            exact ⟨_, rfl, hb, rfl⟩
          · intro a u hG hf
            simp [facts, Need.fact, Ent.val, Act.eval] at hf
            go_simp
          · intro a u hG hf
            simp [facts, Need.fact, Ent.val, Act.eval] at hf
            go_simp
          · intro a u hG hf
            simp [facts, Need.fact, Ent.val, Act.eval] at hf
            go_simp
          · intro a u hG hf
            simp [facts, Need.fact, Ent.val, Act.eval] at hf
            go_simp
          · intro a u hG hf
            simp [facts, Need.fact, Ent.val, Act.eval] at hf
            go_simp
          intro u lw hw wc hKp hE hI hD
          simp only [allE, Ent.val] at hE
          obtain ⟨u0, u1, u2, u3, u4, u5, u6, u7, u8, u9, u10, u11, u12, u13, u14, u15, -⟩ := hE
          simp only [Nat.reduceAdd] at u0 u1 u2 u3 u4 u5 u6 u7 u8 u9 u10 u11 u12 u13 u14 u15
          simp only [allPut, Act.put, Nat.reduceAdd, u0, u1, u2, u3, u4, u5, u6, u7, u8, u9, u10, u11, u12, u13, u14, u15]
          try simp only [List.setIfInBounds_toArray, List.set_cons_zero, List.set_cons_succ]
          clear hI hD u0 u1 u2 u3 u4 u5 u6 u7 u8 u9 u10 u11 u12 u13 u14 u15
          have hBz : Below w2.heap.size w2 wc := hKp.belowX hBk hBk.size (by simp)
          cases hon : aon l p k with
          | true =>
            go_wp2
            exact ⟨⟨k + 1, hlt, rfl, by rw [aon, hon]; rfl, rfl, hBz⟩, by simp only [intOf]; omega⟩
          | false =>
            go_wp2
            exact ⟨⟨k + 1, hlt, rfl, by rw [aon, hon]; rfl, rfl, hBz⟩, by simp only [intOf]; omega⟩
        · obtain rfl : k = l.length := by omega
          have st5 := st3.ext hB
          have s5 := s3.below hB
          obtain ⟨ki, hki, hki2⟩ : ∃ ki : Nat, KD % 3 = ki ∧ ki ≤ 2 := ⟨KD % 3, rfl, by omega⟩
          have hrem : (KD : Int).tmod 3 = (ki : Int) := by rw [Int.tmod_eq_emod_of_nonneg (by omega)]; omega
          have wk1 : IntKind.i64.wrap (ki : Int) = (ki : Int) := by
            unfold IntKind.wrap
            simp [IntKind.bits, IntKind.signed]
            omega
          clear hki
          go_wp2
          refine wp_region_T [] [.val (.slice A0 l.length c0), .slr l, .rel (fun v' lo hi w => ∃ x, v' = .agg #[.int .i64 3, x, .slice none 0 0] ∧ SlR lo hi w x l) (fun _ _ _ _ _ hk ⟨x, h1, h2⟩ => ⟨x, h1, h2.keep hk⟩), .val (.agg #[.int .i64 p.1, .int .i64 p.2]), .slc 29 #[.int .i64 p.1, .int .i64 p.2], .fnS 62 (fun x => .agg #[.int .i64 0, x, .slice none 0 0]), .val (.int .u8 KD), .val (.int .u8 ki), .val (.int .i64 ki),
              .val (.tuple #[.bool (ringHas l p true), .bool (ringHas l p true)]), .val (.tuple #[.bool (ringHas l p true), .bool (ringHas l p true)]), .val (.bool (ringHas l p true)), .val (.bool (ringHas l p true)), .val (.bool (ringHas l p true)), .val (.bool (ringHas l p true))]
            [[.ini 0], [.frm 0 58], [.frm 1 59], [.ini 4], [.frm 3 61], [.frm 4 62], [.ini 2], [.frm 6 64], [.frm 7 65], [.frm 2 60, .frm 5 63, .frm 4 62, .frm 8 66], [.frm 9 67], [.frm 10 57], [.frm 10 57], [.frm 11 68], [.frm 12 69]]
            mixed (by kernel_rfl) (by kernel_rfl) (allPre_of ⟨trivial, trivial, trivial, trivial, trivial, trivial, trivial, trivial, trivial, trivial, trivial, trivial, trivial, trivial, trivial, trivial⟩)
            ⟨OpOk.quiet rfl ?_, OpOk.call rfl ?_, OpOk.call rfl ?_, OpOk.quiet rfl ?_, slc_run rfl ?_, OpOk.fnS rfl ?_, OpOk.quiet rfl ?_, OpOk.quiet rfl ?_, OpOk.quiet rfl ?_, OpOk.call rfl ?_, OpOk.quiet rfl ?_, OpOk.quiet rfl ?_, OpOk.quiet rfl ?_, OpOk.quiet rfl ?_, OpOk.quiet rfl ?_, trivial⟩ ?_
          · intro a u _ hf
            simp [facts, Need.fact, Ent.val, Act.eval] at hf
            go_simp
          · intro a u hG hf
            simp [facts, Need.fact, Ent.val, Act.eval] at hf
            refine ⟨_, _, by go_simp, (varyOf_n l l1 _ _ (s5.below hG.below)).mono ?_⟩
            rintro e w' ⟨v', rfl, hv, hb⟩
            exact ⟨_, rfl, hb, hv⟩
          · intro a u hG hf
            simp [facts, Need.fact, Ent.slr, Act.eval] at hf
            obtain ⟨l3, h3, hs⟩ := hf
            refine ⟨_, _, by go_simp, (varyPoly_c l l1 _ _ hs.p).mono ?_⟩
            rintro e w' ⟨v', rfl, hs', hb⟩
            exact ⟨_, rfl, hb, v', rfl, hs'⟩
          · intro a u hG hf
            simp [facts, Need.fact, Ent.val, Act.eval] at hf
            have stu := st5.keep hG (fun i x _ => by simp) (fun x hx => by simp at hx)
            have y0 := stu.cell 0 rfl 0
            have y1 := stu.cell 0 rfl 1
            simp only [List.getElem?_toArray, List.getElem?_cons_zero, List.getElem?_cons_succ] at y0 y1
            go_simp
          · intro a u _ hf
            simp [facts, Need.fact, Ent.val, Act.eval] at hf
            go_simp
          · intro a u _ hf
            obtain ⟨⟨_, _, b3, h62, _, _, hc3⟩, -⟩ := hf
            have h62' : a.eval (.tmp 62) = .slice (some ⟨b3, 0, none⟩) 1 1 := h62
            simp [Act.eval] at h62'
            go_simp
          · intro a u _ hf
            simp [facts, Need.fact, Ent.val, Act.eval] at hf
            go_simp
          · intro a u _ hf
            simp [facts, Need.fact, Ent.val, Act.eval] at hf
            go_simp
          · intro a u _ hf
            simp [facts, Need.fact, Ent.val, Act.eval] at hf
            go_simp
          · intro a u hG hf
            obtain ⟨⟨_, _, x, hx, hs⟩, ⟨_, _, h63⟩, ⟨_, _, b3, h62, _, _, hc3⟩, ⟨_, _, h66⟩, -⟩ := hf
            have h62' : a.eval (.tmp 62) = .slice (some ⟨b3, 0, none⟩) 1 1 := h62
            have h63' : a.eval (.tmp 63) = .agg #[.int .i64 0, a.eval (.tmp 62), .slice none 0 0] := h63
            have h66' : a.eval (.tmp 66) = .int .i64 ki := h66
            have hx' : a.eval (.tmp 60) = .agg #[.int .i64 3, x, .slice none 0 0] := hx
            rw [h62'] at h63'
            have e0 := cellAt hc3 0
            have e1 := cellAt hc3 1
            simp only [List.getElem?_toArray, List.getElem?_cons_zero, List.getElem?_cons_succ] at e0 e1
            have sp : SlP u (.slice (some ⟨b3, 0, none⟩) 1 1) [p] := by
              refine ⟨_, 1, rfl, fun k q hq => ?_⟩
              rcases k with _ | k
              · simp at hq
                subst hq
                exact ⟨_, 0, rfl, by simpa using e0, by simpa using e1⟩
              · simp at hq
            clear h62 h63 h66 hx
            simp [Act.eval] at h63' h66' hx'
            refine ⟨_, _, by go_simp, (askPt_c ki hki2 l hn12.2 (by omega) hbl0 p hpb0 hray x _ u hs.p sp).mono ?_⟩
            rintro e w' ⟨rfl, hb⟩
            exact ⟨_, rfl, hb, rfl⟩
          · intro a u _ hf
            simp [facts, Need.fact, Ent.val, Act.eval] at hf
            go_simp
          · intro a u _ hf
            simp [facts, Need.fact, Ent.val, Act.eval] at hf
            go_simp
          · intro a u _ hf
            simp [facts, Need.fact, Ent.val, Act.eval] at hf
            go_simp
          · intro a u _ hf
            simp [facts, Need.fact, Ent.val, Act.eval] at hf
            go_simp
          · intro a u _ hf
            simp [facts, Need.fact, Ent.val, Act.eval] at hf
            go_simp
          intro u lw hw wc hKp hE hI hD
          simp only [allE, Ent.val] at hE
          obtain ⟨u0, -, -, u3, -, -, u6, u7, u8, u9, u10, u11, u12, u13, u14, -⟩ := hE
          simp only [Nat.reduceAdd] at u0 u3 u6 u7 u8 u9 u10 u11 u12 u13 u14
          simp only [allPut, Act.put, Nat.reduceAdd, u0, u3, u6, u7, u8, u9, u10, u11, u12, u13, u14]
          try simp only [List.setIfInBounds_toArray, List.set_cons_zero, List.set_cons_succ]
          clear hI hD u0 u3 u6 u7 u8 u9 u10 u11 u12 u13 u14 hray hir
          have st6 := st5.keep hKp (fun i x _ => by simp) (fun x hx => by simp at hx)
          generalize u 1 = y1 at *
          generalize u 2 = y2 at *
          generalize u 4 = y4 at *
          generalize u 5 = y5 at *
          rw [ringHas_law hn12.1]
          clear hKp s5 st5 hB
          cases hx : xrs l p l.length <;> cases ha : aon l p l.length <;>
          · go_wp2_with (go_at_call 10; refine JR.StopM.out ?_)
            refine ⟨?_⟩
            refine (awake_c _).mono ?_
            rintro e wA ⟨rfl, hbA⟩
            have stA := st6.ext hbA
            go_wp2
            go_ret
            exact ⟨rfl, stA.hb⟩
end Go.Proofs.YtdlcckkphjpeoaaGreat
