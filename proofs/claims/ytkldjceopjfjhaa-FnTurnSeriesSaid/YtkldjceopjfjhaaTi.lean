import Derived.Test.YtkldjceopjfjhaaRn
set_option linter.unusedSimpArgs false
set_option linter.unusedVariables false
/-! The r-tree of few segments: the tree. -/
namespace Go.Proofs.Ytkldjceopjfjhaa
open Go.RowKit PF JR
/-- a tree with a root node -/
def TreeV (w : World) (t N n : Nat) : Prop := N ≠ t ∧ (∃ a b c d, w.heap[t]? = some (.cells #[.int .i64 0, .iface 133 (.pointer (some ⟨N, 0, none⟩)), fl a, fl b, fl c, fl d, .int .i64 n, .slice none 0 0] 107 (0, 0))) ∧ ∃ cs, NodA cs n ∧ w.heap[N]? = some (.cells cs 136 (0, 0))
/-- a tree that holds n entries -/
def TreeS (w : World) (t base n : Nat) : Prop :=
  (n = 0 ∧ w.heap[t]? = some (.cells #[.int .i64 0, .nilIface, fl 0, fl 0, fl 0, fl 0, .int .i64 0, .slice none 0 0] 107 (0, 0))) ∨ (∃ N, base ≤ N ∧ TreeV w t N n)
theorem TreeV.below {w u : World} {t N n : Nat} (h : TreeV w t N n) (hb : Below w.heap.size w u) : TreeV u t N n := by
  obtain ⟨h0, ⟨a, b, c, d, h1⟩, cs, h2, h3⟩ := h
  exact ⟨h0, ⟨a, b, c, d, (hb.block _ (lt_of_some h1)).trans h1⟩, cs, h2, (hb.block _ (lt_of_some h3)).trans h3⟩
theorem Rw.below {w u : World} {R base : Nat} {cs : Array Value} {T : TypeId} (h : Rw w u R cs T) (hs : base ≤ w.heap.size) (hR : base ≤ R) : Below base w u :=
  Keep.belowX h.kp (Below.refl base w) hs (by intro x hx; simp at hx; omega)

set_option maxRecDepth 100000 in
set_option maxHeartbeats 4000000 in
theorem tinsV_c (t B N n b0 b1 b2 b3 base : Nat) (w : World) (hT : TreeV w t N n) (hB : w.heap[B]? = some (.cells #[.iface 3 (.int .i64 n), fl b0, fl b1, fl b2, fl b3] 104 (0, 0))) (hn : n ≤ 15) (hBt : B ≠ t) (hBN : B ≠ N) (hbt : base ≤ t) (hbN : base ≤ N) (hbs : base ≤ w.heap.size) :
    Calls Try.prog 57 #[.pointer (some ⟨t, 0, none⟩), .pointer (some ⟨B, 0, none⟩)] w fun e w' => e = .returned (.tuple #[]) ∧ TreeV w' t N (n + 1) ∧ Below base w w' := by
  have hin := ifNil
  obtain ⟨hNt, ⟨a0, a1, a2, a3, hR⟩, cs, hA, hN⟩ := hT
  have r0 := cellAt hR 0
  have r1 := cellAt hR 1
  simp only [List.getElem?_toArray, List.getElem?_cons_zero, List.getElem?_cons_succ] at r0 r1
  go_enter Try.func57, Try.ntmps57
  have hBW := Below.refl base w
  go_upto_region 2 with (fail)
  go_still_tail 8, (by kernel_rfl)
  change wpList _ _ _ _ _ w.drew
  have hb1 : Below w.heap.size w w.drew := (Below.refl _ w).drew
  have hs1 : w.drew.heap.size = w.heap.size := rfl
  generalize w.drew = w1 at *
  have hR1 := (hb1.block t (lt_of_some hR)).trans hR
  have hB1 := (hb1.block B (lt_of_some hB)).trans hB
  have hN1 := (hb1.block N (lt_of_some hN)).trans hN
  have hB01 : Below base w w1 := hBW.trans (hb1.mono (Nat.le_trans hbs hBW.size))
  clear r0 r1 hR hB hN hin
  go_wp2_with (go_at_call 64; refine JR.StopN.out ?_)
  refine ⟨?_⟩
  refine (rinsert_c t B N n a0 a1 a2 a3 b0 b1 b2 b3 _ _ _ cs _ w1 hR1 hB1 hN1 hA hn (Ne.symm hNt) hBN).mono ?_
  rintro e w2 ⟨tb, cs2, rfl, hA2, hr2⟩
  have hR2 := (hr2.kp.block t (lt_of_some hR1) (by simpa using Ne.symm hNt)).trans hR1
  have hB2 := (hr2.kp.block B (lt_of_some hB1) (by simpa using hBN)).trans hB1
  have hN2 := hr2.row
  have hB02 : Below base w w2 := hB01.trans (hr2.below (Nat.le_trans hbs hB01.size) hbN)
  clear hR1 hB1 hN1 hr2 hA hB01 hb1
  have ha := asNode
  have h17 : ((n + 1 : Nat) : Int) ≠ 17 := by omega
  cases tb
  · have r1 := cellAt hR2 1
    have r6 := cellAt hR2 6
    have f6 := frozenAt hR2 6
    have n0 := (cellAt hN2 0).trans hA2.2.1
    simp only [List.getElem?_toArray, List.getElem?_cons_zero, List.getElem?_cons_succ] at r1 r6
    go_wp2
    go_end0
    have hR3 := (Rw.refl hR2).set 6 (.int .i64 (n + 1 : Nat))
    exact ⟨rfl, ⟨hNt, ⟨_, _, _, _, hR3.row⟩, _, hA2, (hR3.kp.block N (lt_of_some hN2) (by simpa using hNt)).trans hN2⟩, hB02.trans (hR3.below (Nat.le_trans hbs hB02.size) hbt)⟩
  · go_wp2_with (go_at_call 65; refine JR.StopN.out ?_)
    refine ⟨?_⟩
    refine (expand_c t B 0 _ _ _ _ b0 b1 b2 b3 _ _ _ _ _ w2 hR2 (Rec4.row hB2 rfl rfl rfl rfl) hBt).mono ?_
    rintro e w3 ⟨rfl, c0, c1, c2, c3, hr3⟩
    have hR3 := hr3.row
    have hN3 := (hr3.kp.block N (lt_of_some hN2) (by simpa using hNt)).trans hN2
    have hB03 := hB02.trans (hr3.below (Nat.le_trans hbs hB02.size) hbt)
    clear hR2 hN2 hB2 hr3 hB02
    have r1 := cellAt hR3 1
    have r6 := cellAt hR3 6
    have f6 := frozenAt hR3 6
    have n0 := (cellAt hN3 0).trans hA2.2.1
    simp only [List.getElem?_toArray, List.getElem?_cons_zero, List.getElem?_cons_succ] at r1 r6
    go_wp2
    go_end0
    have hR4 := (Rw.refl hR3).set 6 (.int .i64 (n + 1 : Nat))
    exact ⟨rfl, ⟨hNt, ⟨_, _, _, _, hR4.row⟩, _, hA2, (hR4.kp.block N (lt_of_some hN3) (by simpa using hNt)).trans hN3⟩, hB03.trans (hR4.below (Nat.le_trans hbs hB03.size) hbt)⟩

theorem infoNode : (Try.prog.info? 136).map (fun i => (i.zero.map (fun z => z.cells.size), i.size)) = some (some 86, 86) := by kernel_rfl

set_option maxRecDepth 100000 in
set_option maxHeartbeats 4000000 in
theorem tins0_c (t B b0 b1 b2 b3 base : Nat) (w : World) (hT : w.heap[t]? = some (.cells #[.int .i64 0, .nilIface, fl 0, fl 0, fl 0, fl 0, .int .i64 0, .slice none 0 0] 107 (0, 0))) (hB : w.heap[B]? = some (.cells #[.iface 3 (.int .i64 (0 : Nat)), fl b0, fl b1, fl b2, fl b3] 104 (0, 0))) (hBt : B ≠ t) (hbt : base ≤ t) (hbs : base ≤ w.heap.size) :
    Calls Try.prog 57 #[.pointer (some ⟨t, 0, none⟩), .pointer (some ⟨B, 0, none⟩)] w fun e w' => e = .returned (.tuple #[]) ∧ (∃ N, base ≤ N ∧ TreeV w' t N 1) ∧ Below base w w' := by
  have hnn := nilNil
  have r0 := cellAt hT 0
  have r1 := cellAt hT 1
  simp only [List.getElem?_toArray, List.getElem?_cons_zero, List.getElem?_cons_succ] at r0 r1
  go_enter Try.func57, Try.ntmps57
  go_upto_region 1 with (fail)
  have hw1 : Below w.heap.size w (w.alloc (.cells Try.zeroCells136 136)).drew := ((Below.refl _ w).alloc (Nat.le_refl _) _).drew
  have hfit := fit_c B 1 2 B 3 2 t 1 _ 107 b0 b1 b2 b3 133 (.pointer (some ⟨w.heap.size, 0, none⟩)) (w.alloc (.cells Try.zeroCells136 136)).drew
    ((cellAt ((hw1.block B (lt_of_some hB)).trans hB) 1).trans rfl) ((cellAt ((hw1.block B (lt_of_some hB)).trans hB) 2).trans rfl) ((cellAt ((hw1.block B (lt_of_some hB)).trans hB) 3).trans rfl) ((cellAt ((hw1.block B (lt_of_some hB)).trans hB) 4).trans rfl)
    ((hw1.block t (lt_of_some hT)).trans hT) hBt hBt (by decide)
  go_cut [] from 12 to 25 (fun wy => Rw (w.alloc (.cells Try.zeroCells136 136)).drew wy t #[.int .i64 0, .iface 133 (.pointer (some ⟨w.heap.size, 0, none⟩)), fl b0, fl b1, fl b2, fl b3, .int .i64 0, .slice none 0 0] 107)
  case first =>
    go_region_with (go_at_call 56; refine hfit.mono ?_; rintro e w2 ⟨rfl, hr2⟩)
    go_wp2
    go_meet
    exact hr2
  case rest =>
  clear hfit r0 r1
  have hNt : w.heap.size ≠ t := by have := lt_of_some hT; omega
  have hBN : B ≠ w.heap.size := by have := lt_of_some hB; omega
  have hB' := (hcut.kp.block B (by simp; have := lt_of_some hB; omega) (by simpa using hBt)).trans ((hw1.block B (lt_of_some hB)).trans hB)
  have hN' : wc.heap[w.heap.size]? = some (.cells Try.zeroCells136 136 (0, 0)) := (hcut.kp.block _ (by simp) (by simpa using hNt)).trans (heap_alloc_new w _)
  have hA : NodA Try.zeroCells136 0 := ⟨rfl, rfl, fun i hi => absurd hi (Nat.not_lt_zero _)⟩
  have hBW : Below base w wc := (hw1.mono hbs).trans (hcut.below (by simp; omega) hbt)
  have hR := hcut.row
  have hbN : base ≤ w.heap.size := hbs
  replace hB := hB'
  have hN := hN'
  clear hB' hN' hcut hw1 hT
  generalize w.heap.size = N at hNt hBN hN hR hbN ⊢
  have hn : 0 ≤ 15 := by decide
  generalize Try.zeroCells136 = cs at *
  have r0 := cellAt hR 0
  simp only [List.getElem?_toArray, List.getElem?_cons_zero] at r0
  go_upto_region 2 with (fail)
  go_still_tail 8, (by kernel_rfl)
  change wpList _ _ _ _ _ wc.drew
  have hb1 : Below wc.heap.size wc wc.drew := (Below.refl _ wc).drew
  have hs1 : wc.drew.heap.size = wc.heap.size := rfl
  generalize wc.drew = w1 at *
  have hR1 := (hb1.block t (lt_of_some hR)).trans hR
  have hB1 := (hb1.block B (lt_of_some hB)).trans hB
  have hN1 := (hb1.block N (lt_of_some hN)).trans hN
  have hB01 : Below base w w1 := hBW.trans (hb1.mono (Nat.le_trans hbs hBW.size))
  clear r0 hR hB hN hnn
  go_wp2_with (go_at_call 64; refine JR.StopN.out ?_)
  refine ⟨?_⟩
  refine (rinsert_c t B N 0 b0 b1 b2 b3 b0 b1 b2 b3 _ _ _ cs _ w1 hR1 hB1 hN1 hA hn (Ne.symm hNt) hBN).mono ?_
  rintro e w2 ⟨tb, cs2, rfl, hA2, hr2⟩
  have hR2 := (hr2.kp.block t (lt_of_some hR1) (by simpa using Ne.symm hNt)).trans hR1
  have hB2 := (hr2.kp.block B (lt_of_some hB1) (by simpa using hBN)).trans hB1
  have hN2 := hr2.row
  have hB02 : Below base w w2 := hB01.trans (hr2.below (Nat.le_trans hbs hB01.size) hbN)
  clear hR1 hB1 hN1 hr2 hA hB01 hb1
  have ha := asNode
  have h17 : ((0 + 1 : Nat) : Int) ≠ 17 := by omega
  cases tb
  · have r1 := cellAt hR2 1
    have r6 := cellAt hR2 6
    have f6 := frozenAt hR2 6
    have n0 := (cellAt hN2 0).trans hA2.2.1
    simp only [List.getElem?_toArray, List.getElem?_cons_zero, List.getElem?_cons_succ] at r1 r6
    go_wp2
    go_end0
    have hR3 := (Rw.refl hR2).set 6 (.int .i64 (0 + 1 : Nat))
    exact ⟨rfl, ⟨N, hbN, ⟨hNt, ⟨_, _, _, _, hR3.row⟩, _, hA2, (hR3.kp.block N (lt_of_some hN2) (by simpa using hNt)).trans hN2⟩⟩, hB02.trans (hR3.below (Nat.le_trans hbs hB02.size) hbt)⟩
  · go_wp2_with (go_at_call 65; refine JR.StopN.out ?_)
    refine ⟨?_⟩
    refine (expand_c t B 0 _ _ _ _ b0 b1 b2 b3 _ _ _ _ _ w2 hR2 (Rec4.row hB2 rfl rfl rfl rfl) hBt).mono ?_
    rintro e w3 ⟨rfl, c0, c1, c2, c3, hr3⟩
    have hR3 := hr3.row
    have hN3 := (hr3.kp.block N (lt_of_some hN2) (by simpa using hNt)).trans hN2
    have hB03 := hB02.trans (hr3.below (Nat.le_trans hbs hB02.size) hbt)
    clear hR2 hN2 hB2 hr3 hB02
    have r1 := cellAt hR3 1
    have r6 := cellAt hR3 6
    have f6 := frozenAt hR3 6
    have n0 := (cellAt hN3 0).trans hA2.2.1
    simp only [List.getElem?_toArray, List.getElem?_cons_zero, List.getElem?_cons_succ] at r1 r6
    go_wp2
    go_end0
    have hR4 := (Rw.refl hR3).set 6 (.int .i64 (0 + 1 : Nat))
    exact ⟨rfl, ⟨N, hbN, ⟨hNt, ⟨_, _, _, _, hR4.row⟩, _, hA2, (hR4.kp.block N (lt_of_some hN3) (by simpa using hNt)).trans hN3⟩⟩, hB03.trans (hR4.below (Nat.le_trans hbs hB03.size) hbt)⟩

/-- a tree of n entries takes one more -/
theorem tins_c (t B n b0 b1 b2 b3 base : Nat) (w : World) (hT : TreeS w t base n) (hB : w.heap[B]? = some (.cells #[.iface 3 (.int .i64 n), fl b0, fl b1, fl b2, fl b3] 104 (0, 0))) (hn : n ≤ 15) (hBt : B ≠ t) (hNB : ∀ N cs, B = N → w.heap[N]? = some (.cells cs 136 (0, 0)) → False) (hbt : base ≤ t) (hbs : base ≤ w.heap.size) :
    Calls Try.prog 57 #[.pointer (some ⟨t, 0, none⟩), .pointer (some ⟨B, 0, none⟩)] w fun e w' => e = .returned (.tuple #[]) ∧ TreeS w' t base (n + 1) ∧ Below base w w' := by
  rcases hT with ⟨rfl, hT⟩ | ⟨N, hbN, hT⟩
  · refine (tins0_c t B b0 b1 b2 b3 base w hT hB hBt hbt hbs).mono ?_
    rintro e w' ⟨rfl, ⟨N, h1, h2⟩, h3⟩
    exact ⟨rfl, .inr ⟨N, h1, h2⟩, h3⟩
  · obtain ⟨cs, -, hN⟩ := hT.2.2
    refine (tinsV_c t B N n b0 b1 b2 b3 base w hT hB hn hBt (fun h => hNB N cs h hN) hbt hbN hbs).mono ?_
    rintro e w' ⟨rfl, h2, h3⟩
    exact ⟨rfl, .inr ⟨N, hbN, h2⟩, h3⟩

theorem TreeS.below {w u : World} {t base n : Nat} (h : TreeS w t base n) (hb : Below w.heap.size w u) : TreeS u t base n := by
  rcases h with ⟨h0, h⟩ | ⟨N, h0, h⟩
  · exact .inl ⟨h0, (hb.block _ (lt_of_some h)).trans h⟩
  · exact .inr ⟨N, h0, h.below hb⟩
theorem TreeS.lt {w : World} {t base n : Nat} (h : TreeS w t base n) : t < w.heap.size := by
  rcases h with ⟨h0, h⟩ | ⟨N, h0, h⟩
  · exact lt_of_some h
  · obtain ⟨-, ⟨a, b, c, d, h1⟩, -⟩ := h
    exact lt_of_some h1
theorem TreeV.nlt {w : World} {t N n : Nat} (h : TreeV w t N n) : N < w.heap.size := by
  obtain ⟨-, -, cs, -, h1⟩ := h
  exact lt_of_some h1

set_option maxRecDepth 100000 in
set_option maxHeartbeats 4000000 in
theorem tInsert_c (t n base P p c Q q d a0 a1 b0 b1 : Nat) (w : World) (hT : TreeS w t base n) (hn : n ≤ 15)
    (p0 : w.cell? ⟨P, p, none⟩ = some (fl a0)) (p1 : w.cell? ⟨P, p + 1, none⟩ = some (fl a1)) (q0 : w.cell? ⟨Q, q, none⟩ = some (fl b0)) (q1 : w.cell? ⟨Q, q + 1, none⟩ = some (fl b1)) (hbt : base ≤ t) (hbs : base ≤ w.heap.size) :
    Calls Try.prog 51 #[.pointer (some ⟨t, 0, none⟩), .slice (some ⟨P, p, none⟩) 2 c, .slice (some ⟨Q, q, none⟩) 2 d, .iface 3 (.int .i64 n)] w fun e w' => e = .returned (.tuple #[]) ∧ TreeS w' t base (n + 1) ∧ Below base w w' := by
  have hP : P < w.heap.size := World.block_lt_of_cell? w _ p0
  have hQ : Q < w.heap.size := World.block_lt_of_cell? w _ q0
  have hw1 : Below w.heap.size w (w.alloc (.cells #[.nilIface, fl 0, fl 0, fl 0, fl 0] 104)) := (Below.refl _ w).alloc (Nat.le_refl _) _
  have hT1 := hT.below hw1
  have hfit := fit_c P p c Q q d w.heap.size 0 _ 104 a0 a1 b0 b1 3 (.int .i64 n) (w.alloc (.cells #[.nilIface, fl 0, fl 0, fl 0, fl 0] 104))
    ((hw1.cell hP).trans p0) ((hw1.cell hP).trans p1) ((hw1.cell hQ).trans q0) ((hw1.cell hQ).trans q1) (heap_alloc_new w _) (Nat.ne_of_lt hP) (Nat.ne_of_lt hQ) (by decide)
  clear p0 p1 q0 q1
  go_enter Try.func51, Try.ntmps51
  go_wp2_with (go_at_call 56; refine JR.StopN.out ?_)
  refine ⟨?_⟩
  refine hfit.mono ?_
  rintro e w2 ⟨rfl, hr2⟩
  have hB2 := hr2.below (base := w.heap.size) (by simp) (Nat.le_refl _)
  have hs2 := hB2.size
  have hT2 : TreeS w2 t base n := hT.below (hw1.trans hB2)
  have hB02 : Below base w w2 := (hw1.trans hB2).mono hbs
  clear hfit hT1
  have hR2 : w2.heap[w.heap.size]? = some (.cells #[.iface 3 (.int .i64 n), fl a0, fl a1, fl b0, fl b1] 104 (0, 0)) := hr2.row
  have hins := tins_c t w.heap.size n a0 a1 b0 b1 base w2 hT2 hR2 hn (Nat.ne_of_gt hT.lt) (fun N cs h1 h2 => by subst h1; rw [hR2] at h2; simp at h2) hbt (Nat.le_trans hbs hB02.size)
  clear hr2 hB2
  go_wp2_with (go_at_call 57; refine JR.StopN.out ?_)
  refine ⟨?_⟩
  refine hins.mono ?_
  rintro e w3 ⟨rfl, hT3, hB3⟩
  go_wp2
  go_end0
  exact ⟨rfl, hT3, hB02.trans hB3⟩
end Go.Proofs.Ytkldjceopjfjhaa
