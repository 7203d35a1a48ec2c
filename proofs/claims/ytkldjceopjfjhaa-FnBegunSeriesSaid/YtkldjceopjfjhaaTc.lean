import Derived.Test.YtkldjceopjfjhaaTi
set_option linter.unusedSimpArgs false
set_option linter.unusedVariables false
/-! The r-tree of few segments as bytes. -/
namespace Go.Proofs.Ytkldjceopjfjhaa
open Go.RowKit PF JR
theorem NodA.nodV {w : World} {N n : Nat} {cs : Array Value} {T : TypeId} (h : NodA cs n) (hn : n ≤ 16) (hr : w.heap[N]? = some (.cells cs T (0, 0))) : NodV w N n (List.range n) := by
  refine ⟨(cellAt hr 0).trans h.2.1, by simp, hn, fun i k hi => ?_⟩
  have hlt : i < n := by
    rcases Nat.lt_or_ge i n with h | h
    · exact h
    · rw [List.getElem?_eq_none (by simpa using h)] at hi; cases hi
  rw [List.getElem?_range hlt] at hi
  cases hi
  exact ⟨by omega, (cellAt hr _).trans (h.2.2 i hlt)⟩

set_option maxRecDepth 100000 in
set_option maxHeartbeats 4000000 in
theorem tcompress_c (t b0 n m : Nat) (v : Value) (u w : World) (hT : TreeS u t b0 n) (hn : n ≤ 16) (hu : Below u.heap.size u w) (hv : Byt w u.heap.size v m) (hm : m ≤ 500) :
    Calls Try.prog 53 #[.pointer (some ⟨t, 0, none⟩), v] w fun e w' => ∃ v' m', e = .returned v' ∧ Byt w' u.heap.size v' m' ∧ m' ≤ m + 101 ∧ m ≤ m' ∧ Below u.heap.size w w' := by
  have hnn := nilNil
  have hin := ifNil
  have hs := hu.size
  rcases hT with ⟨rfl, hT⟩ | ⟨N, -, hT⟩
  · have r1 := (cellAt ((hu.block t (lt_of_some hT)).trans hT) 1)
    simp only [List.getElem?_toArray, List.getElem?_cons_zero, List.getElem?_cons_succ] at r1
    go_enter Try.func53, Try.ntmps53
    go_wp2
    go_ret
    exact ⟨_, _, rfl, hv, by omega, Nat.le_refl _, Below.refl _ _⟩
  · have hT' := hT.below hu
    have hNlt := hT.nlt
    obtain ⟨-, ⟨a, b, c, d, h1⟩, cs, hA, hN⟩ := hT'
    have htl : t < u.heap.size := by obtain ⟨-, ⟨a, b, c, d, h1⟩, -⟩ := hT; exact lt_of_some h1
    have r0 := cellAt h1 0
    have r1 := cellAt h1 1
    simp only [List.getElem?_toArray, List.getElem?_cons_zero, List.getElem?_cons_succ] at r0 r1
    go_enter Try.func53, Try.ntmps53
    go_wp2_with (at_builtin; refine wpList_byt rfl _ _ rfl u.heap.size _ v w w rfl hv (Below.refl _ _) hs _ _ 1 rfl rfl ?c1 ?c2 ?_)
    case c1 => first | rfl | (intro u hu; simp at hu; subst hu; rfl)
    case c2 => omega
    intro v1 w1 hv1 hb1
    have hN1 := (hb1.block N hNlt).trans hN
    have h11 := (hb1.block t htl).trans h1
    clear r0 r1 hv
    have r0 := cellAt h11 0
    simp only [List.getElem?_toArray, List.getElem?_cons_zero, List.getElem?_cons_succ] at r0
    go_upto_region 4 with (fail)
    go_still_tail 8, (by kernel_rfl)
    change wpList _ _ _ _ _ w1.drew
    have hb2 : Below w1.heap.size w1 w1.drew := (Below.refl _ w1).drew
    have hN2 := (hb2.block N (lt_of_some hN1)).trans hN1
    have h12 := (hb2.block t (lt_of_some h11)).trans h11
    have hv2 : Byt w1.drew u.heap.size v1 (m + 1) := hv1.below hb2
    have hB2 : Below u.heap.size w w1.drew := hb1.drew
    generalize w1.drew = w2 at *
    clear r0 hv1 hb2 hb1 hN1 h11
    have hrc := rcompress_c N n t 1 (List.range n) a b c d (m + 1) u.heap.size v1 w2 (hA.nodV hn hN2) hNlt htl ((cellAt h12 1).trans rfl) ((cellAt h12 2).trans rfl) ((cellAt h12 3).trans rfl) ((cellAt h12 4).trans rfl) ((cellAt h12 5).trans rfl) hv2 (by omega) (Nat.le_trans hs hB2.size)
    go_wp2_with (go_at_call 59; refine JR.StopN.out ?_)
    refine ⟨?_⟩
    refine hrc.mono ?_
    rintro e w3 ⟨v3, m3, rfl, hv3, hm3, hm3', hb3⟩
    go_wp2
    go_ret
    exact ⟨_, _, rfl, hv3, by omega, by omega, hB2.trans hb3⟩
end Go.Proofs.Ytkldjceopjfjhaa
