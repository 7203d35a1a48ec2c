import Derived.Test.YtdhljiediafeoaaEr
set_option linter.unusedSimpArgs false
set_option linter.unusedVariables false
/-! The r-tree of few segments, exactly: the tree. -/
namespace PF
def ifz (n : Nat) (x y : Int) : Int := if n = 0 then x else y
theorem inR_of {a0 a1 a2 a3 b0 b1 b2 b3 : Int} (h : inR a0 a1 a2 a3 b0 b1 b2 b3 = true) : a0 ≤ b0 ∧ b2 ≤ a2 ∧ a1 ≤ b1 ∧ b3 ≤ a3 := of_decide_eq_true h
end PF
namespace Go.Proofs.Ytdhljiediafeoaa
open Go.RowKit PF JR
/-- the cells of a node that holds n entries, the numbers 0 .. n-1 -/
def NodA (cs : Array Value) (n : Nat) : Prop := cs.size = 86 ∧ cs[0]? = some (.int .i64 n) ∧ ∀ i, i < n → cs[1 + i * 5]? = some (.iface 3 (.int .i64 i))
theorem NodA.put {cs : Array Value} {n b0 b1 b2 b3 : Nat} (hs : cs.size = 86) (hc0 : cs[0]? = some (.int .i64 n)) (hci : ∀ i, i < n → cs[1 + i * 5]? = some (.iface 3 (.int .i64 i))) (hn : n ≤ 15) :
    (((((cs.setIfInBounds (1 + n * 5) (.iface 3 (.int .i64 n))).setIfInBounds (1 + n * 5 + 1) (.float .f64 b0)).setIfInBounds (1 + n * 5 + 2) (.float .f64 b1)).setIfInBounds (1 + n * 5 + 3) (.float .f64 b2)).setIfInBounds (1 + n * 5 + 4) (.float .f64 b3))[0]? = some (.int .i64 n) ∧
    NodA ((((((cs.setIfInBounds (1 + n * 5) (.iface 3 (.int .i64 n))).setIfInBounds (1 + n * 5 + 1) (.float .f64 b0)).setIfInBounds (1 + n * 5 + 2) (.float .f64 b1)).setIfInBounds (1 + n * 5 + 3) (.float .f64 b2)).setIfInBounds (1 + n * 5 + 4) (.float .f64 b3)).setIfInBounds 0 (.int .i64 (n + 1 : Nat))) (n + 1) := by
  refine ⟨?_, ?_, ?_, ?_⟩
  · simpa [Array.getElem?_setIfInBounds] using hc0
  · simp [hs]
  · rw [Array.getElem?_setIfInBounds]
    simp [hs]
  · intro i hi
    rcases Nat.lt_or_ge i n with h | h
    · simp only [Array.getElem?_setIfInBounds]
      rw [if_neg (by omega), if_neg (by omega), if_neg (by omega), if_neg (by omega), if_neg (by omega), if_neg (by omega)]
      exact hci i h
    · have : i = n := by omega
      subst this
      simp only [Array.getElem?_setIfInBounds]
      rw [if_neg (by omega), if_neg (by omega), if_neg (by omega), if_neg (by omega), if_neg (by omega), if_pos trivial, if_pos (by omega)]
theorem Rec4.row {w : World} {R : Nat} {cs : Array Value} {T : TypeId} (h : w.heap[R]? = some (.cells cs T (0, 0))) {o a b c d : Nat} (h1 : cs[o + 1]? = some (fl a)) (h2 : cs[o + 1 + 1]? = some (fl b)) (h3 : cs[o + 3]? = some (fl c)) (h4 : cs[o + 3 + 1]? = some (fl d)) : Rec4 w R o a b c d :=
  ⟨(cellAt h _).trans h1, (cellAt h _).trans h2, (cellAt h _).trans h3, (cellAt h _).trans h4⟩
set_option maxRecDepth 100000 in
set_option maxHeartbeats 4000000 in
theorem rinsert_c (R B N n : Nat) (a0 a1 a2 a3 b0 b1 b2 b3 : Int) (hRd : Bd4 a0 a1 a2 a3) (hBd : Bd4 b0 b1 b2 b3) (x0 x6 x7 : Value) (cs : Array Value) (T : TypeId) (w : World)
    (hR : w.heap[R]? = some (.cells #[x0, .iface 127 (.pointer (some ⟨N, 0, none⟩)), fl (fb a0), fl (fb a1), fl (fb a2), fl (fb a3), x6, x7] T (0, 0)))
    (hB : w.heap[B]? = some (.cells #[.iface 3 (.int .i64 n), fl (fb b0), fl (fb b1), fl (fb b2), fl (fb b3)] 97 (0, 0)))
    (hN : w.heap[N]? = some (.cells cs 130 (0, 0))) (hA : NodA cs n) (hn : n ≤ 15) (hRN : R ≠ N) (hBN : B ≠ N) :
    Calls Try.prog 57 #[.pointer (some ⟨R, 1, none⟩), .pointer (some ⟨B, 0, none⟩), .int .i64 0] w fun e w' => ∃ cs', e = .returned (.bool (!inR a0 a1 a2 a3 b0 b1 b2 b3)) ∧ NodA cs' (n + 1) ∧ Rw w w' N cs' 130 := by
  have ha := asNode
  obtain ⟨hs, hc0, hci⟩ := hA
  have r0 := cellAt hR 1
  have s0 := cellAt hB 0
  have s1 := cellAt hB 1
  have s2 := cellAt hB 2
  have s3 := cellAt hB 3
  have s4 := cellAt hB 4
  simp only [List.getElem?_toArray, List.getElem?_cons_zero, List.getElem?_cons_succ] at r0 s0 s1 s2 s3 s4
  have n0 := (cellAt hN 0).trans hc0
  have hr0 := Rw.refl hN
  obtain ⟨y0, z0⟩ := hr0.cell (1 + n * 5) (by omega)
  obtain ⟨y1, z1⟩ := hr0.cell (1 + n * 5 + 1) (by omega)
  obtain ⟨y2, z2⟩ := hr0.cell (1 + n * 5 + 2) (by omega)
  obtain ⟨y3, z3⟩ := hr0.cell (1 + n * 5 + 3) (by omega)
  obtain ⟨y4, z4⟩ := hr0.cell (1 + n * 5 + 4) (by omega)
  have f0 := frozenAt hN (1 + n * 5)
  have f1 := frozenAt hN (1 + n * 5 + 1)
  have f2 := frozenAt hN (1 + n * 5 + 2)
  have f3 := frozenAt hN (1 + n * 5 + 3)
  have f4 := frozenAt hN (1 + n * 5 + 4)
  have fc := frozenAt hN 0
  go_enter Try.func57, Try.ntmps57
  go_upto_region 3 with (fail)
  go_region
  have hr5 := (((((hr0.set (1 + n * 5) (.iface 3 (.int .i64 n))).set (1 + n * 5 + 1) (.float .f64 (fb b0))).set (1 + n * 5 + 2) (.float .f64 (fb b1))).set (1 + n * 5 + 3) (.float .f64 (fb b2))).set (1 + n * 5 + 4) (.float .f64 (fb b3))).drew
  have hA5 := NodA.put (b0 := fb b0) (b1 := fb b1) (b2 := fb b2) (b3 := fb b3) hs hc0 hci hn
  generalize ((((cs.setIfInBounds (1 + n * 5) (.iface 3 (.int .i64 n))).setIfInBounds (1 + n * 5 + 1) (.float .f64 (fb b0))).setIfInBounds (1 + n * 5 + 2) (.float .f64 (fb b1))).setIfInBounds (1 + n * 5 + 3) (.float .f64 (fb b2))).setIfInBounds (1 + n * 5 + 4) (.float .f64 (fb b3)) = cs5 at *
  obtain ⟨h5, hA5⟩ := hA5
  generalize (((((w.setCell ⟨N, 1 + n * 5, none⟩ (.iface 3 (.int .i64 n))).setCell ⟨N, 1 + n * 5 + 1, none⟩ (.float .f64 (fb b0))).setCell ⟨N, 1 + n * 5 + 2, none⟩ (.float .f64 (fb b1))).setCell ⟨N, 1 + n * 5 + 3, none⟩ (.float .f64 (fb b2))).setCell ⟨N, 1 + n * 5 + 4, none⟩ (.float .f64 (fb b3))).drew = w5 at *
  clear z0 z1 z2 z3 z4 f0 f1 f2 f3 f4 fc n0 r0 s0 s1 s2 s3 s4 hci hc0 hs hr0 hN
  have n0 := (cellAt hr5.row 0).trans h5
  have fc := frozenAt hr5.row 0
  have hr6 := hr5.set 0 (.int .i64 (n + 1 : Nat))
  have hR6 := (hr6.kp.block R (lt_of_some hR) (by simpa using hRN)).trans hR
  have hB6 := (hr6.kp.block B (lt_of_some hB) (by simpa using hBN)).trans hB
  have hc := contains_c R 1 B 0 a0 a1 a2 a3 b0 b1 b2 b3 hRd hBd _ (Rec4.row hR6 rfl rfl rfl rfl) (Rec4.row hB6 rfl rfl rfl rfl)
  clear hR hB hR6 hB6
  go_wp2_with (go_at_call 63; refine JR.StopN.out ?_)
  refine ⟨?_⟩
  refine hc.mono ?_
  rintro e w7 ⟨rfl, hb⟩
  generalize hgt : inR a0 a1 a2 a3 b0 b1 b2 b3 = t
  clear hc n0 fc
  go_wp2
  go_ret
  exact ⟨_, by rw [hgt]; rfl, hA5, hr6.ext hb⟩
/-- a tree with a root node -/
def TreeV (w : World) (t N n : Nat) (a b c d : Int) : Prop := N ≠ t ∧ w.heap[t]? = some (.cells #[.int .i64 0, .iface 127 (.pointer (some ⟨N, 0, none⟩)), fl (fb a), fl (fb b), fl (fb c), fl (fb d), .int .i64 n, .slice none 0 0] 100 (0, 0)) ∧ ∃ cs, NodA cs n ∧ w.heap[N]? = some (.cells cs 130 (0, 0))
/-- a tree that holds n entries -/
def TreeS (w : World) (t base n : Nat) (a b c d : Int) : Prop :=
  (n = 0 ∧ w.heap[t]? = some (.cells #[.int .i64 0, .nilIface, fl 0, fl 0, fl 0, fl 0, .int .i64 0, .slice none 0 0] 100 (0, 0))) ∨ (∃ N, base ≤ N ∧ n ≠ 0 ∧ TreeV w t N n a b c d)
theorem TreeV.below {w u : World} {t N n : Nat} {a b c d : Int} (h : TreeV w t N n a b c d) (hb : Below w.heap.size w u) : TreeV u t N n a b c d := by
  obtain ⟨h0, h1, cs, h2, h3⟩ := h
  exact ⟨h0, (hb.block _ (lt_of_some h1)).trans h1, cs, h2, (hb.block _ (lt_of_some h3)).trans h3⟩
set_option maxRecDepth 100000 in
set_option maxHeartbeats 4000000 in
theorem tinsV_c (t B N n base : Nat) (a0 a1 a2 a3 b0 b1 b2 b3 : Int) (hRd : Bd4 a0 a1 a2 a3) (hBd : Bd4 b0 b1 b2 b3) (w : World) (hT : TreeV w t N n a0 a1 a2 a3) (hB : w.heap[B]? = some (.cells #[.iface 3 (.int .i64 n), fl (fb b0), fl (fb b1), fl (fb b2), fl (fb b3)] 97 (0, 0))) (hn : n ≤ 15) (hBt : B ≠ t) (hBN : B ≠ N) (hbt : base ≤ t) (hbN : base ≤ N) (hbs : base ≤ w.heap.size) :
    Calls Try.prog 50 #[.pointer (some ⟨t, 0, none⟩), .pointer (some ⟨B, 0, none⟩)] w fun e w' => e = .returned (.tuple #[]) ∧ TreeV w' t N (n + 1) (min a0 b0) (min a1 b1) (max a2 b2) (max a3 b3) ∧ Below base w w' := by
  have hin := ifNil
  obtain ⟨hNt, hR, cs, hA, hN⟩ := hT
  have r0 := cellAt hR 0
  have r1 := cellAt hR 1
  simp only [List.getElem?_toArray, List.getElem?_cons_zero, List.getElem?_cons_succ] at r0 r1
  go_enter Try.func50, Try.ntmps50
  have hBW := Below.refl base w
  go_upto_region 2 with (fail)
  go_still_tail 8, (by kernel_rfl)
  change wpList _ _ _ _ _ w.drew
  have hb1 : Below w.heap.size w w.drew := (Below.refl _ w).drew
  have hs1 : w.drew.heap.size = w.heap.size := rfl
  generalize w.drew = w1 at *
  have hR1 := (hb1.block t (lt_of_some hR)).trans hR
  have hB1 := (hb1.block B (lt_of_some hB)).trans hB
  have hN1 := (hb1.block N (lt_of_some hN)).trans hN
  have hB01 : Below base w w1 := hBW.trans (hb1.mono (Nat.le_trans hbs hBW.size))
  clear r0 r1 hR hB hN hin
  go_wp2_with (go_at_call 57; refine JR.StopN.out ?_)
  refine ⟨?_⟩
  refine (rinsert_c t B N n a0 a1 a2 a3 b0 b1 b2 b3 hRd hBd _ _ _ cs _ w1 hR1 hB1 hN1 hA hn (Ne.symm hNt) hBN).mono ?_
  rintro e w2 ⟨cs2, rfl, hA2, hr2⟩
  generalize htb : (!inR a0 a1 a2 a3 b0 b1 b2 b3) = tb
  replace htb : JR.StopN ((!inR a0 a1 a2 a3 b0 b1 b2 b3) = tb) := ⟨htb⟩
  have hR2 := (hr2.kp.block t (lt_of_some hR1) (by simpa using Ne.symm hNt)).trans hR1
  have hB2 := (hr2.kp.block B (lt_of_some hB1) (by simpa using hBN)).trans hB1
  have hN2 := hr2.row
  have hB02 : Below base w w2 := hB01.trans (hr2.below (Nat.le_trans hbs hB01.size) hbN)
  clear hR1 hB1 hN1 hr2 hA hB01 hb1
  have ha := asNode
  have h17 : ((n + 1 : Nat) : Int) ≠ 17 := by omega
  cases tb
  · have r1 := cellAt hR2 1
    have r6 := cellAt hR2 6
    have f6 := frozenAt hR2 6
    have n0 := (cellAt hN2 0).trans hA2.2.1
    simp only [List.getElem?_toArray, List.getElem?_cons_zero, List.getElem?_cons_succ] at r1 r6
    go_wp2
    go_end0
    have hR3 := (Rw.refl hR2).set 6 (.int .i64 (n + 1 : Nat))
    have hi := inR_of (by simpa using htb.out)
    rw [show min a0 b0 = a0 from by omega, show min a1 b1 = a1 from by omega, show max a2 b2 = a2 from by omega, show max a3 b3 = a3 from by omega]
    exact ⟨rfl, ⟨hNt, hR3.row, _, hA2, (hR3.kp.block N (lt_of_some hN2) (by simpa using hNt)).trans hN2⟩, hB02.trans (hR3.below (Nat.le_trans hbs hB02.size) hbt)⟩
  · go_wp2_with (go_at_call 58; refine JR.StopN.out ?_)
    refine ⟨?_⟩
    refine (expand_c t B 0 a0 a1 a2 a3 b0 b1 b2 b3 hRd hBd _ _ _ _ _ w2 hR2 (Rec4.row hB2 rfl rfl rfl rfl) hBt).mono ?_
    rintro e w3 ⟨rfl, hr3⟩
    have hR3 := hr3.row
    have hN3 := (hr3.kp.block N (lt_of_some hN2) (by simpa using hNt)).trans hN2
    have hB03 := hB02.trans (hr3.below (Nat.le_trans hbs hB02.size) hbt)
    clear hR2 hN2 hB2 hr3 hB02
    have r1 := cellAt hR3 1
    have r6 := cellAt hR3 6
    have f6 := frozenAt hR3 6
    have n0 := (cellAt hN3 0).trans hA2.2.1
    simp only [List.getElem?_toArray, List.getElem?_cons_zero, List.getElem?_cons_succ] at r1 r6
    go_wp2
    go_end0
    have hR4 := (Rw.refl hR3).set 6 (.int .i64 (n + 1 : Nat))
    exact ⟨rfl, ⟨hNt, hR4.row, _, hA2, (hR4.kp.block N (lt_of_some hN3) (by simpa using hNt)).trans hN3⟩, hB03.trans (hR4.below (Nat.le_trans hbs hB03.size) hbt)⟩

theorem infoNode : (Try.prog.info? 130).map (fun i => (i.zero.map (fun z => z.cells.size), i.size)) = some (some 86, 86) := by kernel_rfl

set_option maxRecDepth 100000 in
set_option maxHeartbeats 4000000 in
theorem tins0_c (t B base : Nat) (b0 b1 b2 b3 : Int) (hBd : Bd4 b0 b1 b2 b3) (w : World) (hT : w.heap[t]? = some (.cells #[.int .i64 0, .nilIface, fl 0, fl 0, fl 0, fl 0, .int .i64 0, .slice none 0 0] 100 (0, 0))) (hB : w.heap[B]? = some (.cells #[.iface 3 (.int .i64 (0 : Nat)), fl (fb b0), fl (fb b1), fl (fb b2), fl (fb b3)] 97 (0, 0))) (hBt : B ≠ t) (hbt : base ≤ t) (hbs : base ≤ w.heap.size) :
    Calls Try.prog 50 #[.pointer (some ⟨t, 0, none⟩), .pointer (some ⟨B, 0, none⟩)] w fun e w' => e = .returned (.tuple #[]) ∧ (∃ N, base ≤ N ∧ TreeV w' t N 1 b0 b1 b2 b3) ∧ Below base w w' := by
  have hnn := nilNil
  have r0 := cellAt hT 0
  have r1 := cellAt hT 1
  simp only [List.getElem?_toArray, List.getElem?_cons_zero, List.getElem?_cons_succ] at r0 r1
  go_enter Try.func50, Try.ntmps50
  go_upto_region 1 with (fail)
  have hw1 : Below w.heap.size w (w.alloc (.cells Try.zeroCells130 130)).drew := ((Below.refl _ w).alloc (Nat.le_refl _) _).drew
  have hfit := fit_c B 1 2 B 3 2 t 1 _ 100 (fb b0) (fb b1) (fb b2) (fb b3) 127 (.pointer (some ⟨w.heap.size, 0, none⟩)) (w.alloc (.cells Try.zeroCells130 130)).drew
    ((cellAt ((hw1.block B (lt_of_some hB)).trans hB) 1).trans rfl) ((cellAt ((hw1.block B (lt_of_some hB)).trans hB) 2).trans rfl) ((cellAt ((hw1.block B (lt_of_some hB)).trans hB) 3).trans rfl) ((cellAt ((hw1.block B (lt_of_some hB)).trans hB) 4).trans rfl)
    ((hw1.block t (lt_of_some hT)).trans hT) hBt hBt (by decide)
  go_cut [] from 12 to 25 (fun wy => Rw (w.alloc (.cells Try.zeroCells130 130)).drew wy t #[.int .i64 0, .iface 127 (.pointer (some ⟨w.heap.size, 0, none⟩)), fl (fb b0), fl (fb b1), fl (fb b2), fl (fb b3), .int .i64 0, .slice none 0 0] 100)
  case first =>
    go_region_with (go_at_call 49; refine hfit.mono ?_; rintro e w2 ⟨rfl, hr2⟩)
    go_wp2
    go_meet
    exact hr2
  case rest =>
  clear hfit r0 r1
  have hNt : w.heap.size ≠ t := by have := lt_of_some hT; omega
  have hBN : B ≠ w.heap.size := by have := lt_of_some hB; omega
  have hB' := (hcut.kp.block B (by simp; have := lt_of_some hB; omega) (by simpa using hBt)).trans ((hw1.block B (lt_of_some hB)).trans hB)
  have hN' : wc.heap[w.heap.size]? = some (.cells Try.zeroCells130 130 (0, 0)) := (hcut.kp.block _ (by simp) (by simpa using hNt)).trans (heap_alloc_new w _)
  have hA : NodA Try.zeroCells130 0 := ⟨rfl, rfl, fun i hi => absurd hi (Nat.not_lt_zero _)⟩
  have hBW : Below base w wc := (hw1.mono hbs).trans (hcut.below (by simp; omega) hbt)
  have hR := hcut.row
  have hbN : base ≤ w.heap.size := hbs
  replace hB := hB'
  have hN := hN'
  clear hB' hN' hcut hw1 hT
  generalize w.heap.size = N at hNt hBN hN hR hbN ⊢
  have hn : 0 ≤ 15 := by decide
  generalize Try.zeroCells130 = cs at *
  have r0 := cellAt hR 0
  simp only [List.getElem?_toArray, List.getElem?_cons_zero] at r0
  go_upto_region 2 with (fail)
  go_still_tail 8, (by kernel_rfl)
  change wpList _ _ _ _ _ wc.drew
  have hb1 : Below wc.heap.size wc wc.drew := (Below.refl _ wc).drew
  have hs1 : wc.drew.heap.size = wc.heap.size := rfl
  generalize wc.drew = w1 at *
  have hR1 := (hb1.block t (lt_of_some hR)).trans hR
  have hB1 := (hb1.block B (lt_of_some hB)).trans hB
  have hN1 := (hb1.block N (lt_of_some hN)).trans hN
  have hB01 : Below base w w1 := hBW.trans (hb1.mono (Nat.le_trans hbs hBW.size))
  clear r0 hR hB hN hnn
  go_wp2_with (go_at_call 57; refine JR.StopN.out ?_)
  refine ⟨?_⟩
  refine (rinsert_c t B N 0 b0 b1 b2 b3 b0 b1 b2 b3 hBd hBd _ _ _ cs _ w1 hR1 hB1 hN1 hA hn (Ne.symm hNt) hBN).mono ?_
  rintro e w2 ⟨cs2, rfl, hA2, hr2⟩
  generalize htb : (!inR b0 b1 b2 b3 b0 b1 b2 b3) = tb
  replace htb : JR.StopN ((!inR b0 b1 b2 b3 b0 b1 b2 b3) = tb) := ⟨htb⟩
  have hR2 := (hr2.kp.block t (lt_of_some hR1) (by simpa using Ne.symm hNt)).trans hR1
  have hB2 := (hr2.kp.block B (lt_of_some hB1) (by simpa using hBN)).trans hB1
  have hN2 := hr2.row
  have hB02 : Below base w w2 := hB01.trans (hr2.below (Nat.le_trans hbs hB01.size) hbN)
  clear hR1 hB1 hN1 hr2 hA hB01 hb1
  have ha := asNode
  have h17 : ((0 + 1 : Nat) : Int) ≠ 17 := by omega
  cases tb
  · have r1 := cellAt hR2 1
    have r6 := cellAt hR2 6
    have f6 := frozenAt hR2 6
    have n0 := (cellAt hN2 0).trans hA2.2.1
    simp only [List.getElem?_toArray, List.getElem?_cons_zero, List.getElem?_cons_succ] at r1 r6
    go_wp2
    go_end0
    have hR3 := (Rw.refl hR2).set 6 (.int .i64 (0 + 1 : Nat))
    exact ⟨rfl, ⟨N, hbN, ⟨hNt, hR3.row, _, hA2, (hR3.kp.block N (lt_of_some hN2) (by simpa using hNt)).trans hN2⟩⟩, hB02.trans (hR3.below (Nat.le_trans hbs hB02.size) hbt)⟩
  · go_wp2_with (go_at_call 58; refine JR.StopN.out ?_)
    refine ⟨?_⟩
    refine (expand_c t B 0 b0 b1 b2 b3 b0 b1 b2 b3 hBd hBd _ _ _ _ _ w2 hR2 (Rec4.row hB2 rfl rfl rfl rfl) hBt).mono ?_
    rintro e w3 ⟨rfl, hr3⟩
    have hR3 := hr3.row
    have hN3 := (hr3.kp.block N (lt_of_some hN2) (by simpa using hNt)).trans hN2
    have hB03 := hB02.trans (hr3.below (Nat.le_trans hbs hB02.size) hbt)
    clear hR2 hN2 hB2 hr3 hB02
    have r1 := cellAt hR3 1
    have r6 := cellAt hR3 6
    have f6 := frozenAt hR3 6
    have n0 := (cellAt hN3 0).trans hA2.2.1
    simp only [List.getElem?_toArray, List.getElem?_cons_zero, List.getElem?_cons_succ] at r1 r6
    go_wp2
    go_end0
    have hR4 := (Rw.refl hR3).set 6 (.int .i64 (0 + 1 : Nat))
    exact ⟨rfl, ⟨N, hbN, ⟨hNt, by simpa using hR4.row, _, hA2, (hR4.kp.block N (lt_of_some hN3) (by simpa using hNt)).trans hN3⟩⟩, hB03.trans (hR4.below (Nat.le_trans hbs hB03.size) hbt)⟩

/-- a tree of n entries takes one more -/
theorem tins_c (t B n base : Nat) (a0 a1 a2 a3 b0 b1 b2 b3 : Int) (hRd : Bd4 a0 a1 a2 a3) (hBd : Bd4 b0 b1 b2 b3) (w : World) (hT : TreeS w t base n a0 a1 a2 a3) (hB : w.heap[B]? = some (.cells #[.iface 3 (.int .i64 n), fl (fb b0), fl (fb b1), fl (fb b2), fl (fb b3)] 97 (0, 0))) (hn : n ≤ 15) (hBt : B ≠ t) (hNB : ∀ N cs, B = N → w.heap[N]? = some (.cells cs 130 (0, 0)) → False) (hbt : base ≤ t) (hbs : base ≤ w.heap.size) :
    Calls Try.prog 50 #[.pointer (some ⟨t, 0, none⟩), .pointer (some ⟨B, 0, none⟩)] w fun e w' => e = .returned (.tuple #[]) ∧ TreeS w' t base (n + 1) (ifz n b0 (min a0 b0)) (ifz n b1 (min a1 b1)) (ifz n b2 (max a2 b2)) (ifz n b3 (max a3 b3)) ∧ Below base w w' := by
  rcases hT with ⟨rfl, hT⟩ | ⟨N, hbN, hn0, hT⟩
  · refine (tins0_c t B base b0 b1 b2 b3 hBd w hT hB hBt hbt hbs).mono ?_
    rintro e w' ⟨rfl, ⟨N, h1, h2⟩, h3⟩
    exact ⟨rfl, .inr ⟨N, h1, by decide, h2⟩, h3⟩
  · obtain ⟨cs, -, hN⟩ := hT.2.2
    refine (tinsV_c t B N n base a0 a1 a2 a3 b0 b1 b2 b3 hRd hBd w hT hB hn hBt (fun h => hNB N cs h hN) hbt hbN hbs).mono ?_
    rintro e w' ⟨rfl, h2, h3⟩
    have ez : ∀ x y : Int, ifz n x y = y := fun x y => if_neg hn0
    rw [ez, ez, ez, ez]
    exact ⟨rfl, .inr ⟨N, hbN, by omega, h2⟩, h3⟩

theorem TreeS.below {w u : World} {t base n : Nat} {a b c d : Int} (h : TreeS w t base n a b c d) (hb : Below w.heap.size w u) : TreeS u t base n a b c d := by
  rcases h with ⟨h0, h⟩ | ⟨N, h0, hz, h⟩
  · exact .inl ⟨h0, (hb.block _ (lt_of_some h)).trans h⟩
  · exact .inr ⟨N, h0, hz, h.below hb⟩
theorem TreeS.lt {w : World} {t base n : Nat} {a b c d : Int} (h : TreeS w t base n a b c d) : t < w.heap.size := by
  rcases h with ⟨h0, h⟩ | ⟨N, h0, hz, h⟩
  · exact lt_of_some h
  · obtain ⟨-, h1, -⟩ := h
    exact lt_of_some h1
theorem TreeV.nlt {w : World} {t N n : Nat} {a b c d : Int} (h : TreeV w t N n a b c d) : N < w.heap.size := by
  obtain ⟨-, -, cs, -, h1⟩ := h
  exact lt_of_some h1

set_option maxRecDepth 100000 in
set_option maxHeartbeats 4000000 in
theorem tInsert_c (t n base P p c Q q d : Nat) (r0 r1 r2 r3 a0 a1 b0 b1 : Int) (hRd : Bd4 r0 r1 r2 r3) (hBd : Bd4 a0 a1 b0 b1) (w : World) (hT : TreeS w t base n r0 r1 r2 r3) (hn : n ≤ 15)
    (p0 : w.cell? ⟨P, p, none⟩ = some (fl (fb a0))) (p1 : w.cell? ⟨P, p + 1, none⟩ = some (fl (fb a1))) (q0 : w.cell? ⟨Q, q, none⟩ = some (fl (fb b0))) (q1 : w.cell? ⟨Q, q + 1, none⟩ = some (fl (fb b1))) (hbt : base ≤ t) (hbs : base ≤ w.heap.size) :
    Calls Try.prog 44 #[.pointer (some ⟨t, 0, none⟩), .slice (some ⟨P, p, none⟩) 2 c, .slice (some ⟨Q, q, none⟩) 2 d, .iface 3 (.int .i64 n)] w fun e w' => e = .returned (.tuple #[]) ∧ TreeS w' t base (n + 1) (ifz n a0 (min r0 a0)) (ifz n a1 (min r1 a1)) (ifz n b0 (max r2 b0)) (ifz n b1 (max r3 b1)) ∧ Below base w w' := by
  have hP : P < w.heap.size := World.block_lt_of_cell? w _ p0
  have hQ : Q < w.heap.size := World.block_lt_of_cell? w _ q0
  have hw1 : Below w.heap.size w (w.alloc (.cells #[.nilIface, fl 0, fl 0, fl 0, fl 0] 97)) := (Below.refl _ w).alloc (Nat.le_refl _) _
  have hT1 := hT.below hw1
  have hfit := fit_c P p c Q q d w.heap.size 0 _ 97 (fb a0) (fb a1) (fb b0) (fb b1) 3 (.int .i64 n) (w.alloc (.cells #[.nilIface, fl 0, fl 0, fl 0, fl 0] 97))
    ((hw1.cell hP).trans p0) ((hw1.cell hP).trans p1) ((hw1.cell hQ).trans q0) ((hw1.cell hQ).trans q1) (heap_alloc_new w _) (Nat.ne_of_lt hP) (Nat.ne_of_lt hQ) (by decide)
  clear p0 p1 q0 q1
  go_enter Try.func44, Try.ntmps44
  go_wp2_with (go_at_call 49; refine JR.StopN.out ?_)
  refine ⟨?_⟩
  refine hfit.mono ?_
  rintro e w2 ⟨rfl, hr2⟩
  have hB2 := hr2.below (base := w.heap.size) (by simp) (Nat.le_refl _)
  have hs2 := hB2.size
  have hT2 : TreeS w2 t base n r0 r1 r2 r3 := hT.below (hw1.trans hB2)
  have hB02 : Below base w w2 := (hw1.trans hB2).mono hbs
  clear hfit hT1
  have hR2 : w2.heap[w.heap.size]? = some (.cells #[.iface 3 (.int .i64 n), fl (fb a0), fl (fb a1), fl (fb b0), fl (fb b1)] 97 (0, 0)) := hr2.row
  have hins := tins_c t w.heap.size n base r0 r1 r2 r3 a0 a1 b0 b1 hRd hBd w2 hT2 hR2 hn (Nat.ne_of_gt hT.lt) (fun N cs h1 h2 => by subst h1; rw [hR2] at h2; simp at h2) hbt (Nat.le_trans hbs hB02.size)
  clear hr2 hB2
  go_wp2_with (go_at_call 50; refine JR.StopN.out ?_)
  refine ⟨?_⟩
  refine hins.mono ?_
  rintro e w3 ⟨rfl, hT3, hB3⟩
  go_wp2
  go_end0
  exact ⟨rfl, hT3, hB02.trans hB3⟩
end Go.Proofs.Ytdhljiediafeoaa
