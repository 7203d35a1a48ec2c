import Derived.Test.YtdhljiediafeoaaEc
set_option linter.unusedSimpArgs false
set_option linter.unusedVariables false
/-! The quad tree of few segments, exactly; its bytes. -/
namespace PF
open Go Go.RowKit JR
def u32v (b : Nat) : Value := .int .u32 b
theorem u32_at {n k : Nat} (h : k < n) : ((List.range n).map u32v)[k]? = some (u32v k) := by simp [h]
theorem range_u32 (n : Nat) : (List.range (n + 1)).map u32v = (List.range n).map u32v ++ [u32v n] := by rw [List.range_succ, List.map_append]; rfl
end PF
namespace Go.Proofs.Ytdhljiediafeoaa
open Go.RowKit PF JR
theorem infoU4 : (Try.prog.info? 120).map (fun i => (i.zero, i.size, i.bytes)) = some (some (.int .u32 0), 1, 4) := by kernel_rfl
theorem own_slc {w : World} {base : Nat} {T : TypeId} {size n : Nat} {v : Value} {xs : List Value} (h : w.ownsRow base T size v n xs) : ∃ A c, v = .slice A n c := by
  rcases h.2 with ⟨h1, h2⟩ | ⟨g, cap, cur, h1, -⟩
  · exact ⟨_, _, by rw [h1, h2]⟩
  · exact ⟨_, _, h1⟩
/-- a node that holds n items -/
def QuV (w : World) (q n : Nat) : Prop := ∃ (vi : Value), w.heap[q]? = some (.cells #[.bool false, vi, .pointer none, .pointer none, .pointer none, .pointer none] 111 (0, 0)) ∧ w.ownsRow (q + 1) 120 1 vi n ((List.range n).map u32v)
theorem QuV.below {w u : World} {q n : Nat} (h : QuV w q n) (hb : Below w.heap.size w u) : QuV u q n := by
  obtain ⟨vi, h1, h2⟩ := h
  exact ⟨vi, (hb.block _ (lt_of_some h1)).trans h1, h2.kept (Ext.grown hb none) (own_none _)⟩
theorem QuV.lt {w : World} {q n : Nat} (h : QuV w q n) : q < w.heap.size := by
  obtain ⟨vi, h1, h2⟩ := h
  exact lt_of_some h1

set_option maxRecDepth 100000 in
set_option maxHeartbeats 4000000 in
theorem qinsert_c (q n base a0 a1 a2 a3 b0 b1 b2 b3 : Nat) (sv : Value) (w : World) (hq : QuV w q n) (hn : n ≤ 20) (hbq : base ≤ q) (hbs : base ≤ w.heap.size) :
    Calls Try.prog 47 #[.pointer (some ⟨q, 0, none⟩), sv, .agg #[fl a0, fl a1, fl a2, fl a3], .agg #[fl b0, fl b1, fl b2, fl b3], .int .i64 n, .int .i64 0] w fun e w' => e = .returned (.tuple #[]) ∧ QuV w' q (n + 1) ∧ Below base w w' ∧ ∀ (k : Nat) (cs : Array Value) (T : TypeId), k ≠ q → T ≠ 120 → w.heap[k]? = some (.cells cs T (0, 0)) → w'.heap[k]? = some (.cells cs T (0, 0)) := by
  have hql := hq.lt
  have hw2 : Below w.heap.size w ((w.alloc (.cells #[fl a0, fl a1, fl a2, fl a3] 53)).alloc (.cells #[fl b0, fl b1, fl b2, fl b3] 53)) := ((Below.refl _ w).alloc (Nat.le_refl _) _).alloc (by simp) _
  obtain ⟨vi, h1, h2⟩ := hq.below hw2
  clear hq
  have hvi : ∃ A c, vi = .slice A n c := own_slc h2
  obtain ⟨A, c, rfl⟩ := hvi
  have hlo : ∀ g, (Value.slice A n c).ownBlock = some g → q + 1 ≤ g := fun g hg => (h2.lt g hg).1
  have hoth : ∀ (k : Nat) (cs : Array Value) (T : TypeId), T ≠ 120 → ((w.alloc (.cells #[fl a0, fl a1, fl a2, fl a3] 53)).alloc (.cells #[fl b0, fl b1, fl b2, fl b3] 53)).heap[k]? = some (.cells cs T (0, 0)) → (Value.slice A n c).ownBlock ≠ some k := by
    intro k cs T hT hk he
    rcases h2.2 with ⟨hh, -⟩ | ⟨g, cap, cur, hh, -, hrow, -⟩
    · rw [hh] at he; cases he
    · rw [hh] at he
      cases he
      rw [hk] at hrow
      cases hrow
      exact hT rfl
  have x0 := cellAt h1 0
  have x1 := cellAt h1 1
  have f1 := frozenAt h1 1
  simp only [List.getElem?_toArray, List.getElem?_cons_zero, List.getElem?_cons_succ] at x0 x1
  obtain ⟨i0, hi, hz0, hz1, hz2⟩ := info_parts infoU4
  have h32 : (n : Int) ≠ 32 := by omega
  go_enter Try.func47, Try.ntmps47
  have hB2 : Below (q + 1) w ((w.alloc (.cells #[fl a0, fl a1, fl a2, fl a3] 53)).alloc (.cells #[fl b0, fl b1, fl b2, fl b3] 53)) := hw2.mono (by omega)
  generalize hW : ((w.alloc (.cells #[fl a0, fl a1, fl a2, fl a3] 53)).alloc (.cells #[fl b0, fl b1, fl b2, fl b3] 53)) = w2 at *
  have hs2 := hw2.size
  go_wp2_with (at_builtin; refine wpList_append_own _ rfl _ _ 108 rfl (q + 1) 120 i0 (.int .u32 0) 1 4 Try.underlying108 hi hz0 hz1 hz2 rfl (by decide) _ _ _ rfl (h2.alloc _) ⟨w2.heap.size, 0, none⟩ 1 1 [u32v n] rfl rfl (row_cells (heap_alloc_new w2 _)) ?c2 ?c3 ?c4 ?c5 ?_)
  case c2 => intro u hu; simp at hu; subst hu; rfl
  case c3 => unfold maxLen; omega
  case c4 => omega
  case c5 => simp; omega
  intro v' w3 hown' hgrow _
  have hk3 : ∀ (k : Nat) (cs : Array Value) (T : TypeId), T ≠ 120 → w2.heap[k]? = some (.cells cs T (0, 0)) → w3.heap[k]? = some (.cells cs T (0, 0)) := by
    intro k cs T hT hk
    have hne := hoth k cs T hT hk
    have h5 := hgrow.block k (by have := lt_of_some hk; simp; omega) (fun h => hne h.symm)
    exact h5.trans ((Below.heap_alloc w2 _ k (lt_of_some hk)).trans hk)
  have hk2 : ∀ (k : Nat) (cs : Array Value) (T : TypeId), w.heap[k]? = some (.cells cs T (0, 0)) → w2.heap[k]? = some (.cells cs T (0, 0)) := fun k cs T hk => (hw2.block k (lt_of_some hk)).trans hk
  have hB3 := row_below (hB2.alloc (by omega) _) hgrow hlo (by simp; omega)
  have hq3 := (row_below ((Below.refl (q + 1) w2).alloc (by omega) _) hgrow hlo (by simp; omega)).block q (by omega) |>.trans h1
  clear x0 x1 f1 h1 h2 hgrow hB2 hlo hW hw2 hoth
  have f1 := frozenAt hq3 1
  have x1 := cellAt hq3 1
  simp only [List.getElem?_toArray, List.getElem?_cons_zero, List.getElem?_cons_succ] at x1
  obtain ⟨A', c', rfl⟩ := own_slc hown'
  go_wp2
  go_end0
  have hr := (Rw.refl hq3).set 1 (.slice A' (n + 1) c')
  have hr3 := hr.kp
  refine ⟨rfl, ⟨.slice A' (n + 1) c', hr.row, ?_⟩, (hB3.mono (by omega)).trans (hr.below (by have := hB3.size; omega) hbq), fun k cs T hkq hT hk => ?_⟩
  · rw [range_u32]
    exact hown'.kept (row := some q) ⟨hr3.os, hr3.tape, hr3.output, hr3.size, fun k hk hne => hr3.block k hk (by intro hm; simp at hm; exact hne (by rw [hm]))⟩ (.inr (fun h => by have := (hown'.lt q h).1; omega))
  · have h5 := hk3 k cs T hT (hk2 k cs T hk)
    exact (hr3.block k (lt_of_some h5) (by simpa using hkq)).trans h5
theorem own_at {w : World} {base : Nat} {T : TypeId} {n j : Nat} {A : Option Addr} {c : Nat} {x : Value} {xs : List Value} (h : w.ownsRow base T 1 (.slice A n c) n xs) (hx : xs[j]? = some x) : ∃ g, A = some ⟨g, 0, none⟩ ∧ w.cell? ⟨g, j, none⟩ = some x := by
  have hj : j < xs.length := by
    rcases Nat.lt_or_ge j xs.length with h | h
    · exact h
    · rw [List.getElem?_eq_none h] at hx; cases hx
  rcases h.2 with ⟨h1, h2⟩ | ⟨g, cap, cur, h1, -, h3, -, -, h6, h7⟩
  · have := h.1; omega
  · cases h1
    refine ⟨g, rfl, (cellAt h3 j).trans ?_⟩
    rw [← h7, List.getElem?_take] at hx
    split at hx
    · simpa using hx
    · cases hx

set_option maxRecDepth 100000 in
set_option maxHeartbeats 4000000 in
theorem qcompress_c (q n a0 a1 a2 a3 : Nat) (v : Value) (bs : List Nat) (u w : World) (hq : QuV u q n) (hn : n ≤ 20) (hu : Below u.heap.size u w) (hv : Bys w u.heap.size v bs) (hm : bs.length ≤ 500) :
    Calls Try.prog 48 #[.pointer (some ⟨q, 0, none⟩), v, .agg #[fl a0, fl a1, fl a2, fl a3]] w fun e w' => ∃ v', e = .returned v' ∧ Bys w' u.heap.size v' (bs ++ qbytes n) ∧ Below u.heap.size w w' := by
  have hs := hu.size
  have hnb := numBytes_c
  have hB1 : Below u.heap.size w (w.alloc (.cells #[fl a0, fl a1, fl a2, fl a3] 53)) := (Below.refl _ w).alloc hs _
  have hq1 := hq.below (hu.trans hB1)
  have hv1 := hv.alloc (.cells #[fl a0, fl a1, fl a2, fl a3] 53)
  go_enter Try.func48, Try.ntmps48
  go_upto_region 1 with (fail)
  generalize w.alloc (.cells #[fl a0, fl a1, fl a2, fl a3] 53) = w1 at *
  clear hv
  obtain ⟨vi, h1, h2⟩ := hq1
  obtain ⟨A, c, rfl⟩ := own_slc h2
  have x0 := cellAt h1 0
  have x1 := cellAt h1 1
  simp only [List.getElem?_toArray, List.getElem?_cons_zero, List.getElem?_cons_succ] at x0 x1
  have hc := hnb n (by omega) w1
  go_wp2_with (go_at_call 55; refine JR.StopN.out ?_)
  refine ⟨?_⟩
  refine hc.mono ?_
  rintro e w2 ⟨rfl, rfl⟩
  clear hc
  go_wp2
  go_loopw [7, 8] (fun b i wr => b = .int .u8 1 ∧ ∃ k : Nat, k ≤ n ∧ i = .int .i64 k ∧ wr = w2) (fun _ i _ => n - (intOf i).toNat)
  case atStart => exact ⟨rfl, 0, Nat.zero_le _, rfl, rfl⟩
  case round =>
    obtain ⟨rfl, k, hk, rfl, rfl⟩ := hrel
    rcases Nat.lt_or_ge k n with hlt | hge
    · obtain ⟨g, rfl, g1⟩ := own_at h2 (u32_at hlt)
      have hc := hnb k (by omega) wr
      unfold u32v at g1
      go_wp2_with (go_at_call 55; refine JR.StopN.out ?_)
      refine ⟨?_⟩
      refine hc.mono ?_
      rintro e w6 ⟨rfl, rfl⟩
      go_wp2
      go_roundw
      case rel => exact ⟨rfl, k + 1, by omega, by go_num, trivial⟩
      case measure => simp [intOf]; omega
    · have : k = n := by omega
      subst this
      go_wp2_with (at_builtin; refine wpList_byt rfl _ _ rfl u.heap.size _ v w wr rfl hv1 hB1 hs [1] _ 1 rfl rfl ?c2 ?_)
      case c2 => omega
      intro v6 w6 hv6 hB6
      clear h1 h2 hv1 x0 x1 hB1
      obtain ⟨vi, h1, h2⟩ := hq.below (hu.trans hB6)
      obtain ⟨A, c, rfl⟩ := own_slc h2
      have x0 := cellAt h1 0
      have x1 := cellAt h1 1
      simp only [List.getElem?_toArray, List.getElem?_cons_zero, List.getElem?_cons_succ] at x0 x1
      go_wp2_with (go_at_call 56; refine JR.StopN.out ?_)
      refine ⟨?_⟩
      refine (appendNum_c k u.heap.size (by omega) _ _ _ hv6 (by simp; omega) (Nat.le_trans hs hB6.size)).mono ?_
      rintro e w7 ⟨v7, rfl, hv7, hb7⟩
      have hB7 := hB6.trans hb7
      clear h1 h2 hv6 x0 x1 hB6 hb7
      go_wp2
      go_loopw [1, 10] (fun b i wr => ∃ j : Nat, j ≤ k ∧ i = .int .i64 j ∧ Bys wr u.heap.size b (bs ++ [1] ++ [k] ++ List.range j) ∧ Below u.heap.size w wr) (fun _ i _ => k - (intOf i).toNat)
      case atStart => exact ⟨0, Nat.zero_le _, rfl, by simpa using hv7, hB7⟩
      case round =>
        clear hv7 hB7
        obtain ⟨j, hj, rfl, hv7, hB7⟩ := hrel
        obtain ⟨vi, h1, h2⟩ := hq.below (hu.trans hB7)
        obtain ⟨A, c, rfl⟩ := own_slc h2
        have x0 := cellAt h1 0
        have x1 := cellAt h1 1
        simp only [List.getElem?_toArray, List.getElem?_cons_zero, List.getElem?_cons_succ] at x0 x1
        rcases Nat.lt_or_ge j k with hlt | hge
        · obtain ⟨g, rfl, g1⟩ := own_at h2 (u32_at hlt)
          unfold u32v at g1
          go_wp2_with (go_at_call 56; refine JR.StopN.out ?_)
          refine ⟨?_⟩
          refine (appendNum_c j u.heap.size (by omega) _ _ _ hv7 (by simp; omega) (Nat.le_trans hs hB7.size)).mono ?_
          rintro e w8 ⟨v8, rfl, hv8, hb8⟩
          have hB8 := hB7.trans hb8
          go_wp2
          go_roundw
          case rel => exact ⟨j + 1, by omega, by go_num, by rw [range_snoc]; exact hv8, hB8⟩
          case measure => simp [intOf]; omega
        · have : j = k := by omega
          subst this
          go_wp2_with (at_builtin; refine wpList_byt rfl _ _ rfl u.heap.size _ _ w wr (by rfl) hv7 hB7 hs [0] _ 1 rfl rfl ?c2 ?_)
          case c2 => simp; omega
          intro v9 w9 hv9 hB9
          go_wp2
          go_ret
          exact ⟨_, rfl, by unfold qbytes; simpa using hv9, hB9⟩
end Go.Proofs.Ytdhljiediafeoaa
