import Derived.Test.YtkldjceopjfjhaaRi
set_option linter.unusedSimpArgs false
set_option linter.unusedVariables false
/-! The r-tree of few segments: Insert. -/
namespace Go.Proofs.Ytkldjceopjfjhaa
open Go.RowKit PF JR
/-- the cells of a node that holds n entries, the numbers 0 .. n-1 -/
def NodA (cs : Array Value) (n : Nat) : Prop := cs.size = 86 ∧ cs[0]? = some (.int .i64 n) ∧ ∀ i, i < n → cs[1 + i * 5]? = some (.iface 3 (.int .i64 i))
theorem NodA.put {cs : Array Value} {n b0 b1 b2 b3 : Nat} (hs : cs.size = 86) (hc0 : cs[0]? = some (.int .i64 n)) (hci : ∀ i, i < n → cs[1 + i * 5]? = some (.iface 3 (.int .i64 i))) (hn : n ≤ 15) :
    (((((cs.setIfInBounds (1 + n * 5) (.iface 3 (.int .i64 n))).setIfInBounds (1 + n * 5 + 1) (.float .f64 b0)).setIfInBounds (1 + n * 5 + 2) (.float .f64 b1)).setIfInBounds (1 + n * 5 + 3) (.float .f64 b2)).setIfInBounds (1 + n * 5 + 4) (.float .f64 b3))[0]? = some (.int .i64 n) ∧
    NodA ((((((cs.setIfInBounds (1 + n * 5) (.iface 3 (.int .i64 n))).setIfInBounds (1 + n * 5 + 1) (.float .f64 b0)).setIfInBounds (1 + n * 5 + 2) (.float .f64 b1)).setIfInBounds (1 + n * 5 + 3) (.float .f64 b2)).setIfInBounds (1 + n * 5 + 4) (.float .f64 b3)).setIfInBounds 0 (.int .i64 (n + 1 : Nat))) (n + 1) := by
  refine ⟨?_, ?_, ?_, ?_⟩
  · simpa [Array.getElem?_setIfInBounds] using hc0
  · simp [hs]
  · rw [Array.getElem?_setIfInBounds]
    simp [hs]
  · intro i hi
    rcases Nat.lt_or_ge i n with h | h
    · simp only [Array.getElem?_setIfInBounds]
      rw [if_neg (by omega), if_neg (by omega), if_neg (by omega), if_neg (by omega), if_neg (by omega), if_neg (by omega)]
      exact hci i h
    · have : i = n := by omega
      subst this
      simp only [Array.getElem?_setIfInBounds]
      rw [if_neg (by omega), if_neg (by omega), if_neg (by omega), if_neg (by omega), if_neg (by omega), if_pos trivial, if_pos (by omega)]
theorem Rec4.row {w : World} {R : Nat} {cs : Array Value} {T : TypeId} (h : w.heap[R]? = some (.cells cs T (0, 0))) {o a b c d : Nat} (h1 : cs[o + 1]? = some (fl a)) (h2 : cs[o + 1 + 1]? = some (fl b)) (h3 : cs[o + 3]? = some (fl c)) (h4 : cs[o + 3 + 1]? = some (fl d)) : Rec4 w R o a b c d :=
  ⟨(cellAt h _).trans h1, (cellAt h _).trans h2, (cellAt h _).trans h3, (cellAt h _).trans h4⟩
theorem Rw.ext {w u u' : World} {R : Nat} {cs : Array Value} {T : TypeId} (h : Rw w u R cs T) (e : Below u.heap.size u u') : Rw w u' R cs T :=
  ⟨(e.block _ (lt_of_some h.row)).trans h.row, Keep.ext e h.kp⟩

set_option maxRecDepth 100000 in
set_option maxHeartbeats 4000000 in
theorem rinsert_c (R B N n a0 a1 a2 a3 b0 b1 b2 b3 : Nat) (x0 x6 x7 : Value) (cs : Array Value) (T : TypeId) (w : World)
    (hR : w.heap[R]? = some (.cells #[x0, .iface 133 (.pointer (some ⟨N, 0, none⟩)), fl a0, fl a1, fl a2, fl a3, x6, x7] T (0, 0)))
    (hB : w.heap[B]? = some (.cells #[.iface 3 (.int .i64 n), fl b0, fl b1, fl b2, fl b3] 104 (0, 0)))
    (hN : w.heap[N]? = some (.cells cs 136 (0, 0))) (hA : NodA cs n) (hn : n ≤ 15) (hRN : R ≠ N) (hBN : B ≠ N) :
    Calls Try.prog 64 #[.pointer (some ⟨R, 1, none⟩), .pointer (some ⟨B, 0, none⟩), .int .i64 0] w fun e w' => ∃ t cs', e = .returned (.bool t) ∧ NodA cs' (n + 1) ∧ Rw w w' N cs' 136 := by
  have ha := asNode
  obtain ⟨hs, hc0, hci⟩ := hA
  have r0 := cellAt hR 1
  have s0 := cellAt hB 0
  have s1 := cellAt hB 1
  have s2 := cellAt hB 2
  have s3 := cellAt hB 3
  have s4 := cellAt hB 4
  simp only [List.getElem?_toArray, List.getElem?_cons_zero, List.getElem?_cons_succ] at r0 s0 s1 s2 s3 s4
  have n0 := (cellAt hN 0).trans hc0
  have hr0 := Rw.refl hN
  obtain ⟨y0, z0⟩ := hr0.cell (1 + n * 5) (by omega)
  obtain ⟨y1, z1⟩ := hr0.cell (1 + n * 5 + 1) (by omega)
  obtain ⟨y2, z2⟩ := hr0.cell (1 + n * 5 + 2) (by omega)
  obtain ⟨y3, z3⟩ := hr0.cell (1 + n * 5 + 3) (by omega)
  obtain ⟨y4, z4⟩ := hr0.cell (1 + n * 5 + 4) (by omega)
  have f0 := frozenAt hN (1 + n * 5)
  have f1 := frozenAt hN (1 + n * 5 + 1)
  have f2 := frozenAt hN (1 + n * 5 + 2)
  have f3 := frozenAt hN (1 + n * 5 + 3)
  have f4 := frozenAt hN (1 + n * 5 + 4)
  have fc := frozenAt hN 0
  go_enter Try.func64, Try.ntmps64
  go_upto_region 3 with (fail)
  go_region
  have hr5 := (((((hr0.set (1 + n * 5) (.iface 3 (.int .i64 n))).set (1 + n * 5 + 1) (.float .f64 b0)).set (1 + n * 5 + 2) (.float .f64 b1)).set (1 + n * 5 + 3) (.float .f64 b2)).set (1 + n * 5 + 4) (.float .f64 b3)).drew
  have hA5 := NodA.put (b0 := b0) (b1 := b1) (b2 := b2) (b3 := b3) hs hc0 hci hn
  generalize ((((cs.setIfInBounds (1 + n * 5) (.iface 3 (.int .i64 n))).setIfInBounds (1 + n * 5 + 1) (.float .f64 b0)).setIfInBounds (1 + n * 5 + 2) (.float .f64 b1)).setIfInBounds (1 + n * 5 + 3) (.float .f64 b2)).setIfInBounds (1 + n * 5 + 4) (.float .f64 b3) = cs5 at *
  obtain ⟨h5, hA5⟩ := hA5
  generalize (((((w.setCell ⟨N, 1 + n * 5, none⟩ (.iface 3 (.int .i64 n))).setCell ⟨N, 1 + n * 5 + 1, none⟩ (.float .f64 b0)).setCell ⟨N, 1 + n * 5 + 2, none⟩ (.float .f64 b1)).setCell ⟨N, 1 + n * 5 + 3, none⟩ (.float .f64 b2)).setCell ⟨N, 1 + n * 5 + 4, none⟩ (.float .f64 b3)).drew = w5 at *
  clear z0 z1 z2 z3 z4 f0 f1 f2 f3 f4 fc n0 r0 s0 s1 s2 s3 s4 hci hc0 hs hr0 hN
  have n0 := (cellAt hr5.row 0).trans h5
  have fc := frozenAt hr5.row 0
  have hr6 := hr5.set 0 (.int .i64 (n + 1 : Nat))
  have hR6 := (hr6.kp.block R (lt_of_some hR) (by simpa using hRN)).trans hR
  have hB6 := (hr6.kp.block B (lt_of_some hB) (by simpa using hBN)).trans hB
  have hc := contains_c R 1 B 0 a0 a1 a2 a3 b0 b1 b2 b3 _ (Rec4.row hR6 rfl rfl rfl rfl) (Rec4.row hB6 rfl rfl rfl rfl)
  clear hR hB hR6 hB6
  go_wp2_with (go_at_call 70; refine JR.StopN.out ?_)
  refine ⟨?_⟩
  refine hc.mono ?_
  rintro e w7 ⟨t, rfl, hb⟩
  clear hc n0 fc
  go_wp2
  go_ret
  exact ⟨_, _, rfl, hA5, hr6.ext hb⟩
end Go.Proofs.Ytkldjceopjfjhaa
