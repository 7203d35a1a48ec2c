import Derived.Test.YtlpibeloedfbdaaGreatQV
set_option linter.unusedSimpArgs false
set_option linter.unusedVariables false
/-! Slices of points that a call has made anew. -/
namespace PF
open Go Go.RowKit JR
/-- the slice v holds the points of L, in a block from number l up to h -/
def SlR (l h : Nat) (w : World) (v : Value) (L : List (Int × Int)) : Prop :=
  ∃ A c, v = .slice A L.length c ∧ ∀ k p, L[k]? = some p → ∃ b, A = some ⟨b, 0, none⟩ ∧ l ≤ b ∧ b < h ∧ w.cell? ⟨b, 0 + k * 2, none⟩ = some (.int .i64 p.1) ∧ w.cell? ⟨b, 0 + k * 2 + 1, none⟩ = some (.int .i64 p.2)
theorem SlR.p {l h : Nat} {w : World} {v : Value} {L : List (Int × Int)} (H : SlR l h w v L) : SlP w v L := by
  obtain ⟨A, c, hv, hk⟩ := H
  refine ⟨A, c, hv, fun k p hp => ?_⟩
  obtain ⟨b, h1, -, -, h2, h3⟩ := hk k p hp
  exact ⟨b, 0, h1, h2, h3⟩
theorem SlR.keep {l h : Nat} {w w' : World} {v : Value} {L : List (Int × Int)} (hk : ∀ b, l ≤ b → b < h → w'.heap[b]? = w.heap[b]?) (H : SlR l h w v L) : SlR l h w' v L := by
  obtain ⟨A, c, hv, hh⟩ := H
  refine ⟨A, c, hv, fun k p hp => ?_⟩
  obtain ⟨b, h1, h4, h5, h2, h3⟩ := hh k p hp
  exact ⟨b, h1, h4, h5, (World.cell?_of_block (hk b h4 h5)).trans h2, (World.cell?_of_block (hk b h4 h5)).trans h3⟩
theorem SlR.own {w : World} {base l : Nat} {T : TypeId} {v : Value} {L : List (Int × Int)} (H : w.ownsRow base T 2 v L.length (cellsP L)) (hl : l ≤ base) : SlR l w.heap.size w v L := by
  rcases H.2 with ⟨rfl, h0⟩ | ⟨g, cap, cur, rfl, _⟩
  · have : L = [] := List.eq_nil_of_length_eq_zero h0
    subst this
    exact ⟨none, 0, rfl, fun k p hp => by simp at hp⟩
  · refine ⟨_, _, rfl, fun k p hp => ?_⟩
    obtain ⟨h1, h2⟩ := cellsP_get L k p hp
    have a1 := H.cells (g := g) rfl _ _ h1
    have a2 := H.cells (g := g) rfl _ _ h2
    have e : ∀ j, (⟨g, 0, none⟩ : Addr).add j = ⟨g, 0 + j, none⟩ := fun j => by unfold Addr.add; split <;> simp_all
    rw [e] at a1 a2
    exact ⟨g, rfl, Nat.le_trans hl (H.lt g rfl).1, World.block_lt_of_cell? w _ a1, a1, a2⟩
end PF
namespace Go.Proofs.YtlpibeloedfbdaaGreat
open Go.RowKit PF JR

set_option maxHeartbeats 1000000 in
theorem varyOf_n (l : List (Int × Int)) (hl : l.length ≤ 2147483647) (v : Value) (w : World) (hv : SlP w v l) :
    Calls Tryz.prog 11 #[v] w fun e w' => ∃ v', e = .returned v' ∧ SlR w.heap.size w'.heap.size w' v' l ∧ Below w.heap.size w w' := by
  obtain ⟨A, c, rfl, hk⟩ := hv
  obtain ⟨i0, hi, hz0, hz1, hz2⟩ := info_parts infoVP
  go_enter Tryz.func11, Tryz.ntmps11
  go_wp2
  go_loopw [3, 8] (fun v i wr => ∃ k : Nat, k ≤ l.length ∧ i = .int .i64 k ∧ wr.ownsRow w.heap.size 65 2 v k (cellsP (l.take k)) ∧ Below w.heap.size w wr) (fun _ i _ => l.length - (intOf i).toNat)
  case atStart => exact ⟨0, Nat.zero_le _, rfl, World.ownsRow_nil _ _ _ _, Below.refl _ _⟩
  case round =>
    obtain ⟨k, hkl, rfl, hown, hnx⟩ := hrel
    rcases Nat.lt_or_ge k l.length with hlt | hge
    · obtain ⟨p, hp⟩ : ∃ p, l[k]? = some p := ⟨l[k], by simp [hlt]⟩
      obtain ⟨b, off, rfl, h1, h2⟩ := hk k p hp
      have g1 := (hnx.cell (World.block_lt_of_cell? w _ h1)).trans h1
      have g2 := (hnx.cell (World.block_lt_of_cell? w _ h2)).trans h2
      clear h1 h2 hk
      go_wp2_with (first | (at_builtin; refine wpList_append_own _ rfl _ _ 36 rfl w.heap.size 65 i0 (.agg #[.int .i64 0, .int .i64 0]) 2 16 Tryz.underlying36 hi hz0 hz1 hz2 rfl (by decide) _ _ _ rfl ((hown.alloc _).alloc _) ⟨wr.heap.size + 1, 0, none⟩ 1 1 [.int .i64 p.1, .int .i64 p.2] rfl rfl ?c1 ?c2 ?c3 ?c4 ?c5 ?_))
      case c1 => exact two_cells _ _ _ _ _
      case c2 => intro u hu; simp at hu; rcases hu with rfl | rfl <;> rfl
      case c3 => unfold maxLen; omega
      case c4 => omega
      case c5 => have := hnx.size; simp; omega
      intro v' w1 hown' hgrow _
      have hB := row_below (((hnx.alloc hnx.size _).alloc (by have := hnx.size; simp; omega) _)) hgrow (fun g hg => (hown.lt g hg).1) (by have := hnx.size; simp; omega)
      rw [← cellsP_snoc l k p hp] at hown'
      clear hgrow hown hnx
      go_wp2
      go_roundw
      case rel => exact ⟨k + 1, by omega, by go_num, hown', hB⟩
      case measure => simp [intOf]; omega
    · have hkk : k = l.length := by omega
      subst hkk
      rw [List.take_length] at hown
      clear hk
      go_wp2
      go_ret
      exact ⟨_, rfl, SlR.own hown (Nat.le_refl _), hnx⟩
end Go.Proofs.YtlpibeloedfbdaaGreat
