import Derived.Test.YtkldjceopjfjhaaQi
set_option linter.unusedSimpArgs false
set_option linter.unusedVariables false
/-! The quad tree of few segments as bytes. -/
namespace Go.Proofs.Ytkldjceopjfjhaa
open Go.RowKit PF JR
theorem own_at {w : World} {base : Nat} {T : TypeId} {n j : Nat} {A : Option Addr} {c : Nat} {x : Value} {xs : List Value} (h : w.ownsRow base T 1 (.slice A n c) n xs) (hx : xs[j]? = some x) : ∃ g, A = some ⟨g, 0, none⟩ ∧ w.cell? ⟨g, j, none⟩ = some x := by
  have hj : j < xs.length := by
    rcases Nat.lt_or_ge j xs.length with h | h
    · exact h
    · rw [List.getElem?_eq_none h] at hx; cases hx
  rcases h.2 with ⟨h1, h2⟩ | ⟨g, cap, cur, h1, -, h3, -, -, h6, h7⟩
  · have := h.1; omega
  · cases h1
    refine ⟨g, rfl, (cellAt h3 j).trans ?_⟩
    rw [← h7, List.getElem?_take] at hx
    split at hx
    · simpa using hx
    · cases hx

set_option maxRecDepth 100000 in
set_option maxHeartbeats 4000000 in
theorem qcompress_c (q n m a0 a1 a2 a3 : Nat) (v : Value) (u w : World) (hq : QuV u q n) (hn : n ≤ 20) (hu : Below u.heap.size u w) (hv : Byt w u.heap.size v m) (hm : m ≤ 500) :
    Calls Try.prog 55 #[.pointer (some ⟨q, 0, none⟩), v, .agg #[fl a0, fl a1, fl a2, fl a3]] w fun e w' => ∃ v' m', e = .returned v' ∧ Byt w' u.heap.size v' m' ∧ m' ≤ m + 101 ∧ m ≤ m' ∧ Below u.heap.size w w' := by
  have hs := hu.size
  have hnb := numBytes_c
  have hB1 : Below u.heap.size w (w.alloc (.cells #[fl a0, fl a1, fl a2, fl a3] 58)) := (Below.refl _ w).alloc hs _
  have hq1 := hq.below (hu.trans hB1)
  have hv1 := hv.alloc (.cells #[fl a0, fl a1, fl a2, fl a3] 58)
  go_enter Try.func55, Try.ntmps55
  go_upto_region 1 with (fail)
  generalize w.alloc (.cells #[fl a0, fl a1, fl a2, fl a3] 58) = w1 at *
  clear hv
  obtain ⟨vi, xs, h1, h2, h3⟩ := hq1
  obtain ⟨A, c, rfl⟩ := own_slc h2
  have x0 := cellAt h1 0
  have x1 := cellAt h1 1
  simp only [List.getElem?_toArray, List.getElem?_cons_zero, List.getElem?_cons_succ] at x0 x1
  have hc := hnb n (by omega) w1
  go_wp2_with (go_at_call 62; refine JR.StopN.out ?_)
  refine ⟨?_⟩
  refine hc.mono ?_
  rintro e w2 ⟨rfl, rfl⟩
  clear hc
  go_wp2
  go_loopw [7, 8] (fun b i wr => b = .int .u8 1 ∧ ∃ k : Nat, k ≤ n ∧ i = .int .i64 k ∧ wr = w2) (fun _ i _ => n - (intOf i).toNat)
  case atStart => exact ⟨rfl, 0, Nat.zero_le _, rfl, rfl⟩
  case round =>
    obtain ⟨rfl, k, hk, rfl, rfl⟩ := hrel
    rcases Nat.lt_or_ge k n with hlt | hge
    · obtain ⟨x, hx⟩ : ∃ x, xs[k]? = some x := ⟨xs[k]'(by have := h2.1; omega), by simp [h2.1, hlt]⟩
      obtain ⟨j, hj, rfl⟩ := h3 k x hx
      obtain ⟨g, rfl, g1⟩ := own_at h2 hx
      have hc := hnb j hj wr
      clear h3
      go_wp2_with (go_at_call 62; refine JR.StopN.out ?_)
      refine ⟨?_⟩
      refine hc.mono ?_
      rintro e w6 ⟨rfl, rfl⟩
      go_wp2
      go_roundw
      case rel => exact ⟨rfl, k + 1, by omega, by go_num, trivial⟩
      case measure => simp [intOf]; omega
    · have : k = n := by omega
      subst this
      go_wp2_with (at_builtin; refine wpList_byt rfl _ _ rfl u.heap.size _ v w wr rfl hv1 hB1 hs _ _ 1 rfl rfl ?c1 ?c2 ?_)
      case c1 => first | rfl | (intro u hu; simp at hu; subst hu; rfl)
      case c2 => omega
      intro v6 w6 hv6 hB6
      clear h1 h2 h3 hv1 x0 x1 hB1
      obtain ⟨vi, xs, h1, h2, h3⟩ := hq.below (hu.trans hB6)
      obtain ⟨A, c, rfl⟩ := own_slc h2
      have x0 := cellAt h1 0
      have x1 := cellAt h1 1
      simp only [List.getElem?_toArray, List.getElem?_cons_zero, List.getElem?_cons_succ] at x0 x1
      go_wp2_with (go_at_call 63; refine JR.StopN.out ?_)
      refine ⟨?_⟩
      refine (appendNum_c _ _ u.heap.size (by omega) _ _ hv6 (by omega) (Nat.le_trans hs hB6.size)).mono ?_
      rintro e w7 ⟨v7, rfl, hv7, hb7⟩
      have hB7 := hB6.trans hb7
      clear h1 h2 h3 hv6 x0 x1 hB6 hb7
      go_wp2
      go_loopw [1, 10] (fun b i wr => ∃ j : Nat, j ≤ k ∧ i = .int .i64 j ∧ Byt wr u.heap.size b (m + 2 + j) ∧ Below u.heap.size w wr) (fun _ i _ => k - (intOf i).toNat)
      case atStart => exact ⟨0, Nat.zero_le _, rfl, hv7, hB7⟩
      case round =>
        clear hv7 hB7
        obtain ⟨j, hj, rfl, hv7, hB7⟩ := hrel
        obtain ⟨vi, xs, h1, h2, h3⟩ := hq.below (hu.trans hB7)
        obtain ⟨A, c, rfl⟩ := own_slc h2
        have x0 := cellAt h1 0
        have x1 := cellAt h1 1
        simp only [List.getElem?_toArray, List.getElem?_cons_zero, List.getElem?_cons_succ] at x0 x1
        rcases Nat.lt_or_ge j k with hlt | hge
        · obtain ⟨x, hx⟩ : ∃ x, xs[j]? = some x := ⟨xs[j]'(by have := h2.1; omega), by simp [h2.1, hlt]⟩
          obtain ⟨y, hy, rfl⟩ := h3 j x hx
          obtain ⟨g, rfl, g1⟩ := own_at h2 hx
          clear h3
          go_wp2_with (go_at_call 63; refine JR.StopN.out ?_)
          refine ⟨?_⟩
          refine (appendNum_c _ _ u.heap.size hy _ _ hv7 (by omega) (Nat.le_trans hs hB7.size)).mono ?_
          rintro e w8 ⟨v8, rfl, hv8, hb8⟩
          have hB8 := hB7.trans hb8
          go_wp2
          go_roundw
          case rel => exact ⟨j + 1, by omega, by go_num, hv8, hB8⟩
          case measure => simp [intOf]; omega
        · have : j = k := by omega
          subst this
          clear h3
          go_wp2_with (at_builtin; refine wpList_byt rfl _ _ rfl u.heap.size _ _ w wr (by rfl) hv7 hB7 hs _ _ 1 rfl rfl ?c1 ?c2 ?_)
          case c1 => first | rfl | (intro u hu; simp at hu; subst hu; rfl)
          case c2 => omega
          intro v9 w9 hv9 hB9
          go_wp2
          go_ret
          exact ⟨_, _, rfl, hv9, by omega, by omega, hB9⟩
end Go.Proofs.Ytkldjceopjfjhaa
