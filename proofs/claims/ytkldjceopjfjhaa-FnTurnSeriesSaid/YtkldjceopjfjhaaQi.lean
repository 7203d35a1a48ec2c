import Derived.Test.YtkldjceopjfjhaaTc
set_option linter.unusedSimpArgs false
set_option linter.unusedVariables false
/-! The quad tree of few segments. -/
namespace Go.Proofs.Ytkldjceopjfjhaa
open Go.RowKit PF JR
theorem infoU4 : (Try.prog.info? 126).map (fun i => (i.zero, i.size, i.bytes)) = some (some (.int .u32 0), 1, 4) := by kernel_rfl
theorem own_slc {w : World} {base : Nat} {T : TypeId} {size n : Nat} {v : Value} {xs : List Value} (h : w.ownsRow base T size v n xs) : ∃ A c, v = .slice A n c := by
  rcases h.2 with ⟨h1, h2⟩ | ⟨g, cap, cur, h1, -⟩
  · exact ⟨_, _, by rw [h1, h2]⟩
  · exact ⟨_, _, h1⟩
/-- a node that holds n items -/
def QuV (w : World) (q n : Nat) : Prop := ∃ (vi : Value) (xs : List Value), w.heap[q]? = some (.cells #[.bool false, vi, .pointer none, .pointer none, .pointer none, .pointer none] 117 (0, 0)) ∧ w.ownsRow (q + 1) 126 1 vi n xs ∧ ∀ (i : Nat) (x : Value), xs[i]? = some x → ∃ k : Nat, k ≤ 255 ∧ x = .int .u32 k
theorem QuV.below {w u : World} {q n : Nat} (h : QuV w q n) (hb : Below w.heap.size w u) : QuV u q n := by
  obtain ⟨vi, xs, h1, h2, h3⟩ := h
  exact ⟨vi, xs, (hb.block _ (lt_of_some h1)).trans h1, h2.kept (Ext.grown hb none) (own_none _), h3⟩
theorem QuV.lt {w : World} {q n : Nat} (h : QuV w q n) : q < w.heap.size := by
  obtain ⟨vi, xs, h1, h2, h3⟩ := h
  exact lt_of_some h1

set_option maxRecDepth 100000 in
set_option maxHeartbeats 4000000 in
theorem qinsert_c (q n base a0 a1 a2 a3 b0 b1 b2 b3 : Nat) (sv : Value) (w : World) (hq : QuV w q n) (hn : n ≤ 20) (hbq : base ≤ q) (hbs : base ≤ w.heap.size) :
    Calls Try.prog 54 #[.pointer (some ⟨q, 0, none⟩), sv, .agg #[fl a0, fl a1, fl a2, fl a3], .agg #[fl b0, fl b1, fl b2, fl b3], .int .i64 n, .int .i64 0] w fun e w' => e = .returned (.tuple #[]) ∧ QuV w' q (n + 1) ∧ Below base w w' ∧ ∀ (k : Nat) (cs : Array Value) (T : TypeId), k ≠ q → T ≠ 126 → w.heap[k]? = some (.cells cs T (0, 0)) → w'.heap[k]? = some (.cells cs T (0, 0)) := by
  have hql := hq.lt
  have hw2 : Below w.heap.size w ((w.alloc (.cells #[fl a0, fl a1, fl a2, fl a3] 58)).alloc (.cells #[fl b0, fl b1, fl b2, fl b3] 58)) := ((Below.refl _ w).alloc (Nat.le_refl _) _).alloc (by simp) _
  obtain ⟨vi, xs, h1, h2, h3⟩ := hq.below hw2
  clear hq
  have hvi : ∃ A c, vi = .slice A n c := own_slc h2
  obtain ⟨A, c, rfl⟩ := hvi
  have hlo : ∀ g, (Value.slice A n c).ownBlock = some g → q + 1 ≤ g := fun g hg => (h2.lt g hg).1
  have hoth : ∀ (k : Nat) (cs : Array Value) (T : TypeId), T ≠ 126 → ((w.alloc (.cells #[fl a0, fl a1, fl a2, fl a3] 58)).alloc (.cells #[fl b0, fl b1, fl b2, fl b3] 58)).heap[k]? = some (.cells cs T (0, 0)) → (Value.slice A n c).ownBlock ≠ some k := by
    intro k cs T hT hk he
    rcases h2.2 with ⟨hh, -⟩ | ⟨g, cap, cur, hh, -, hrow, -⟩
    · rw [hh] at he; cases he
    · rw [hh] at he
      cases he
      rw [hk] at hrow
      cases hrow
      exact hT rfl
  have x0 := cellAt h1 0
  have x1 := cellAt h1 1
  have f1 := frozenAt h1 1
  simp only [List.getElem?_toArray, List.getElem?_cons_zero, List.getElem?_cons_succ] at x0 x1
  obtain ⟨i0, hi, hz0, hz1, hz2⟩ := info_parts infoU4
  have h32 : (n : Int) ≠ 32 := by omega
  go_enter Try.func54, Try.ntmps54
  have hB2 : Below (q + 1) w ((w.alloc (.cells #[fl a0, fl a1, fl a2, fl a3] 58)).alloc (.cells #[fl b0, fl b1, fl b2, fl b3] 58)) := hw2.mono (by omega)
  generalize hW : ((w.alloc (.cells #[fl a0, fl a1, fl a2, fl a3] 58)).alloc (.cells #[fl b0, fl b1, fl b2, fl b3] 58)) = w2 at *
  have hs2 := hw2.size
  go_wp2_with (at_builtin; refine wpList_append_own _ rfl _ _ 114 rfl (q + 1) 126 i0 (.int .u32 0) 1 4 Try.underlying114 hi hz0 hz1 hz2 rfl (by decide) _ _ _ rfl (h2.alloc _) ⟨w2.heap.size, 0, none⟩ 1 1 [.int .u32 n] rfl rfl (row_cells (heap_alloc_new w2 _)) ?c2 ?c3 ?c4 ?c5 ?_)
  case c2 => intro u hu; simp at hu; subst hu; rfl
  case c3 => unfold maxLen; omega
  case c4 => omega
  case c5 => simp; omega
  intro v' w3 hown' hgrow _
  have hk3 : ∀ (k : Nat) (cs : Array Value) (T : TypeId), T ≠ 126 → w2.heap[k]? = some (.cells cs T (0, 0)) → w3.heap[k]? = some (.cells cs T (0, 0)) := by
    intro k cs T hT hk
    have hne := hoth k cs T hT hk
    have h5 := hgrow.block k (by have := lt_of_some hk; simp; omega) (fun h => hne h.symm)
    exact h5.trans ((Below.heap_alloc w2 _ k (lt_of_some hk)).trans hk)
  have hk2 : ∀ (k : Nat) (cs : Array Value) (T : TypeId), w.heap[k]? = some (.cells cs T (0, 0)) → w2.heap[k]? = some (.cells cs T (0, 0)) := fun k cs T hk => (hw2.block k (lt_of_some hk)).trans hk
  have hB3 := row_below (hB2.alloc (by omega) _) hgrow hlo (by simp; omega)
  have hq3 := (row_below ((Below.refl (q + 1) w2).alloc (by omega) _) hgrow hlo (by simp; omega)).block q (by omega) |>.trans h1
  clear x0 x1 f1 h1 h2 hgrow hB2 hlo hW hw2 hoth
  have f1 := frozenAt hq3 1
  have x1 := cellAt hq3 1
  simp only [List.getElem?_toArray, List.getElem?_cons_zero, List.getElem?_cons_succ] at x1
  obtain ⟨A', c', rfl⟩ := own_slc hown'
  go_wp2
  go_end0
  have hr := (Rw.refl hq3).set 1 (.slice A' (n + 1) c')
  have hr3 := hr.kp
  refine ⟨rfl, ⟨.slice A' (n + 1) c', xs ++ [.int .u32 n], hr.row, ?_, ?_⟩, (hB3.mono (by omega)).trans (hr.below (by have := hB3.size; omega) hbq), fun k cs T hkq hT hk => ?_⟩
  · exact hown'.kept (row := some q) ⟨hr3.os, hr3.tape, hr3.output, hr3.size, fun k hk hne => hr3.block k hk (by intro hm; simp at hm; exact hne (by rw [hm]))⟩ (.inr (fun h => by have := (hown'.lt q h).1; omega))
  · intro i x hx
    rw [List.getElem?_append] at hx
    split at hx
    · exact h3 i x hx
    · cases hj : i - xs.length with
      | zero => rw [hj] at hx; simp at hx; exact ⟨n, by omega, hx.symm⟩
      | succ j => rw [hj] at hx; simp at hx
  · have h5 := hk3 k cs T hT (hk2 k cs T hk)
    exact (hr3.block k (lt_of_some h5) (by simpa using hkq)).trans h5
end Go.Proofs.Ytkldjceopjfjhaa
