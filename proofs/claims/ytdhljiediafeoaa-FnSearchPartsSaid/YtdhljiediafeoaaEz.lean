import Derived.Test.YtdhljiediafeoaaEy
import Derived.Test.YtdhljiediafeoaaJf
import Derived.Test.YtdhljiediafeoaaVn
set_option linter.unusedSimpArgs false
set_option linter.unusedVariables false
/-! impl.SearchIn. -/
namespace PF
open Go Go.RowKit JR
def iv (k : Nat) : Value := .int .i64 k
/-- two rectangles meet -/
def metR (r s : Int × Int × Int × Int) : Bool := decide (s.1 ≤ r.2.2.1 ∧ r.1 ≤ s.2.2.1 ∧ s.2.1 ≤ r.2.2.2 ∧ r.2.1 ≤ s.2.2.2)
/-- the first segments that a rectangle meets -/
def hitsN (r : Int × Int × Int × Int) (l : List (Int × Int)) (k : Nat) : List Nat := (List.range k).filter fun i => metR r (sgx l i)
theorem hits_yes {r : Int × Int × Int × Int} {l : List (Int × Int)} {k : Nat} (h : metR r (sgx l k) = true) : hitsN r l (k + 1) = hitsN r l k ++ [k] := by
  unfold hitsN; rw [List.range_succ, List.filter_append]; simp [h]
theorem hits_no {r : Int × Int × Int × Int} {l : List (Int × Int)} {k : Nat} (h : metR r (sgx l k) = false) : hitsN r l (k + 1) = hitsN r l k := by
  unfold hitsN; rw [List.range_succ, List.filter_append]; simp [h]
theorem hits_le (r : Int × Int × Int × Int) (l : List (Int × Int)) (k : Nat) : (hitsN r l k).length ≤ k := by
  unfold hitsN
  have := List.length_filter_le (fun i => metR r (sgx l i)) (List.range k)
  simpa using this
theorem hits_pre (r : Int × Int × Int × Int) (l : List (Int × Int)) (k : Nat) : ∀ n, k ≤ n → ∃ t, hitsN r l n = hitsN r l k ++ t := by
  intro n
  induction n with
  | zero => intro h; exact ⟨[], by rw [show k = 0 by omega]; simp⟩
  | succ n ih =>
    intro h
    rcases Nat.lt_or_ge n k with h1 | h1
    · exact ⟨[], by rw [show k = n + 1 by omega]; simp⟩
    · obtain ⟨t, ht⟩ := ih h1
      cases hm : metR r (sgx l n) with
      | true => exact ⟨t ++ [n], by rw [hits_yes hm, ht, List.append_assoc]⟩
      | false => exact ⟨t, by rw [hits_no hm, ht]⟩
theorem hits_take {r : Int × Int × Int × Int} {l : List (Int × Int)} {k n m : Nat} (hk : k ≤ n) (h : (hitsN r l k).length = m) : (hitsN r l n).take m = hitsN r l k := by
  obtain ⟨t, ht⟩ := hits_pre r l k n hk
  rw [ht, ← h, List.take_left]
/-- the rectangle around all holds each -/
theorem rbx_in (l : List (Int × Int)) : ∀ n k, k < n → (rbx l n).1 ≤ (sgx l k).1 ∧ (rbx l n).2.1 ≤ (sgx l k).2.1 ∧ (sgx l k).2.2.1 ≤ (rbx l n).2.2.1 ∧ (sgx l k).2.2.2 ≤ (rbx l n).2.2.2 := by
  intro n
  induction n with
  | zero => intro k h; omega
  | succ n ih =>
    intro k h
    simp only [rbx, ifz]
    rcases Nat.lt_or_ge k n with h1 | h1
    · obtain ⟨a, b, c, d⟩ := ih k h1
      rw [if_neg (by omega), if_neg (by omega), if_neg (by omega), if_neg (by omega)]
      omega
    · obtain rfl : k = n := by omega
      split <;> omega
/-- a slice of whole numbers, its block from number l up to h -/
def SlN (l h : Nat) (w : World) (v : Value) (L : List Nat) : Prop :=
  ∃ A c, v = .slice A L.length c ∧ ∀ k p, L[k]? = some p → ∃ b, A = some ⟨b, 0, none⟩ ∧ l ≤ b ∧ b < h ∧ w.cell? ⟨b, k, none⟩ = some (iv p)
theorem SlN.keep {l h : Nat} {w w' : World} {v : Value} {L : List Nat} (hk : ∀ b, l ≤ b → b < h → w'.heap[b]? = w.heap[b]?) (H : SlN l h w v L) : SlN l h w' v L := by
  obtain ⟨A, c, hv, hh⟩ := H
  refine ⟨A, c, hv, fun k p hp => ?_⟩
  obtain ⟨b, h1, h4, h5, h2⟩ := hh k p hp
  exact ⟨b, h1, h4, h5, (World.cell?_of_block (hk b h4 h5)).trans h2⟩
theorem SlN.wide {l h l' h' : Nat} {w : World} {v : Value} {L : List Nat} (H : SlN l h w v L) (h1 : l' ≤ l) (h2 : h ≤ h') : SlN l' h' w v L := by
  obtain ⟨A, c, hv, hh⟩ := H
  refine ⟨A, c, hv, fun k p hp => ?_⟩
  obtain ⟨b, g1, g4, g5, g2⟩ := hh k p hp
  exact ⟨b, g1, by omega, by omega, g2⟩
theorem SlN.own {w : World} {base : Nat} {T : TypeId} {v : Value} {L : List Nat} (H : w.ownsRow base T 1 v L.length (L.map iv)) : SlN base w.heap.size w v L := by
  rcases H.2 with ⟨rfl, h0⟩ | ⟨g, cap, cur, rfl, _⟩
  · have : L = [] := List.eq_nil_of_length_eq_zero h0
    subst this
    exact ⟨none, 0, rfl, fun k p hp => by simp at hp⟩
  · refine ⟨_, _, rfl, fun k p hp => ?_⟩
    have a1 := H.cells (g := g) rfl k (iv p) (by rw [List.getElem?_map, hp]; rfl)
    have e : ∀ j, (⟨g, 0, none⟩ : Addr).add j = ⟨g, 0 + j, none⟩ := fun j => by unfold Addr.add; split <;> simp_all
    rw [e, Nat.zero_add] at a1
    exact ⟨g, rfl, (H.lt g rfl).1, World.block_lt_of_cell? w _ a1, a1⟩
end PF
namespace Go.Proofs.Ytdhljiediafeoaa
open Go.RowKit PF JR
theorem infoI : (Try.prog.info? 2).map (fun i => (i.zero, i.size, i.bytes)) = some (some (.int .i64 0), 1, 8) := by kernel_rfl
set_option maxRecDepth 100000 in
set_option maxHeartbeats 2000000 in
theorem clo_c (o mb : Nat) (hne : o ≠ mb) (most : Int) (n k base : Nat) (xs : List Value) (v : Value) (a b c d : Nat) (u : World) (ho : u.heap[o]? = some (.cells #[v] 34 (0, 0))) (hm : u.heap[mb]? = some (.cells #[.int .i64 most] 2 (0, 0)))
    (hown : u.ownsRow base 2 1 v n xs) (hbs : base ≤ u.heap.size) (hn : n ≤ 100) (hob : o < base) (hmb : mb < base) :
    Calls Try.prog 14 #[.agg #[fl a, fl b, fl c, fl d], .int .i64 k, .pointer (some ⟨o, 0, none⟩), .pointer (some ⟨mb, 0, none⟩)] u fun e u' => e = .returned (.bool (decide ((n : Int) + 1 < most))) ∧ ∃ v', u'.heap[o]? = some (.cells #[v'] 34 (0, 0)) ∧ u'.ownsRow base 2 1 v' (n + 1) (xs ++ [.int .i64 k]) ∧ Keep (o :: v.ownBlock.toList) u u' := by
  have hbx : Below u.heap.size u (u.alloc (.cells #[fl a, fl b, fl c, fl d] 56)) := (Below.refl _ u).alloc (Nat.le_refl _) _
  have ho1 := (hbx.block o (lt_of_some ho)).trans ho
  have hm1 := (hbx.block mb (lt_of_some hm)).trans hm
  have hown1 := hown.alloc (.cells #[fl a, fl b, fl c, fl d] 56)
  have hs1 : (u.alloc (.cells #[fl a, fl b, fl c, fl d] 56)).heap.size = u.heap.size + 1 := by simp
  have hlo : ∀ g, v.ownBlock = some g → base ≤ g := fun g hg => (hown.lt g hg).1
  obtain ⟨i0, hi, hz0, hz1, hz2⟩ := info_parts infoI
  clear hown
  generalize hu1 : u.alloc (.cells #[fl a, fl b, fl c, fl d] 56) = u1 at *
  have x0 := cellAt ho1 0
  simp only [List.getElem?_toArray, List.getElem?_cons_zero] at x0
  obtain ⟨A0, c0, rfl⟩ := own_slc hown1
  go_enter Try.func14, Try.ntmps14
  go_wp2_with (at_builtin; refine wpList_append_own _ rfl _ _ 34 rfl base 2 i0 (.int .i64 0) 1 8 Try.underlying34 hi hz0 hz1 hz2 rfl (by decide) _ _ _ rfl (hown1.alloc _) ⟨u.heap.size + 1, 0, none⟩ 1 1 [.int .i64 k] rfl rfl (row_cells (by rw [← hs1]; exact heap_alloc_new u1 _)) ?c2 ?c3 ?c4 ?c5 ?_)
  case c2 => intro y hy; simp at hy; subst hy; rfl
  case c3 => unfold maxLen; omega
  case c4 => omega
  case c5 => simp; omega
  intro v2 w2 hown2 hgrow _
  have hK2 : Keep ((Value.slice A0 n c0).ownBlock.toList) u w2 := by
    refine ⟨hgrow.os.trans hbx.os, hgrow.tape.trans hbx.tape, hgrow.output.trans hbx.output, Nat.le_trans (by rw [hs1]; omega) (Nat.le_trans (show u1.heap.size ≤ (u1.alloc (.cells #[.int .i64 k] 2)).heap.size by simp) hgrow.size), fun j hj hx => ?_⟩
    refine (hgrow.block j (by simp; omega) (fun h => hx (by rw [← h]; simp))).trans ?_
    exact (Below.heap_alloc u1 _ j (by omega)).trans (hbx.block j hj)
  have hno : o ∉ (Value.slice A0 n c0).ownBlock.toList := by intro h; simp at h; have := hlo _ h; omega
  have hnm : mb ∉ (Value.slice A0 n c0).ownBlock.toList := by intro h; simp at h; have := hlo _ h; omega
  have ho2 := (hK2.block o (lt_of_some ho) hno).trans ho
  have hm2 := (hK2.block mb (lt_of_some hm) hnm).trans hm
  clear x0 ho1 hm1 hown1 hgrow hbx hu1
  have x0 := cellAt ho2 0
  have f0 := frozenAt ho2 0
  have y0 := cellAt hm2 0
  simp only [List.getElem?_toArray, List.getElem?_cons_zero] at x0 y0
  obtain ⟨A, cc, rfl⟩ := own_slc hown2
  have hmo : mb ≠ o := Ne.symm hne
  go_wp2
  go_ret
  refine ⟨by first | rfl | go_num, .slice A (n + 1) cc, ?_, ?_, ?_⟩
  · rw [setCell_row ho2]
    exact setRow_same ho2
  · rw [setCell_row ho2]
    exact hown2.kept (grown_setRow w2 o _) (.inr (fun h => by have := (hown2.lt o h).1; omega))
  · rw [setCell_row ho2]
    have h3 : Keep (o :: (Value.slice A0 n c0).ownBlock.toList) u w2 := ⟨hK2.os, hK2.tape, hK2.output, hK2.size, fun j hj hx => hK2.block j hj (fun h => hx (by simp at h ⊢; exact .inr h))⟩
    exact Keep.setRow h3 (.inr (by simp))
end Go.Proofs.Ytdhljiediafeoaa
