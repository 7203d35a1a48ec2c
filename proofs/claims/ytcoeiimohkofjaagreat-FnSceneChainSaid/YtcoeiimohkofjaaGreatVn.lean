import Derived.Test.YtcoeiimohkofjaaGreatQV
set_option linter.unusedSimpArgs false
set_option linter.unusedVariables false
/-! Slices of points that a call has made anew. -/
namespace PF
open Go Go.RowKit JR
/-- the slice v holds the points of L, in a block from number l up to h -/
def SlR (l h : Nat) (w : World) (v : Value) (L : List (Int × Int)) : Prop :=
  ∃ A c, v = .slice A L.length c ∧ ∀ k p, L[k]? = some p → ∃ b, A = some ⟨b, 0, none⟩ ∧ l ≤ b ∧ b < h ∧ w.cell? ⟨b, 0 + k * 2, none⟩ = some (.int .i64 p.1) ∧ w.cell? ⟨b, 0 + k * 2 + 1, none⟩ = some (.int .i64 p.2)
theorem SlR.p {l h : Nat} {w : World} {v : Value} {L : List (Int × Int)} (H : SlR l h w v L) : SlP w v L := by
  obtain ⟨A, c, hv, hk⟩ := H
  refine ⟨A, c, hv, fun k p hp => ?_⟩
  obtain ⟨b, h1, -, -, h2, h3⟩ := hk k p hp
  exact ⟨b, 0, h1, h2, h3⟩
theorem SlR.keep {l h : Nat} {w w' : World} {v : Value} {L : List (Int × Int)} (hk : ∀ b, l ≤ b → b < h → w'.heap[b]? = w.heap[b]?) (H : SlR l h w v L) : SlR l h w' v L := by
  obtain ⟨A, c, hv, hh⟩ := H
  refine ⟨A, c, hv, fun k p hp => ?_⟩
  obtain ⟨b, h1, h4, h5, h2, h3⟩ := hh k p hp
  exact ⟨b, h1, h4, h5, (World.cell?_of_block (hk b h4 h5)).trans h2, (World.cell?_of_block (hk b h4 h5)).trans h3⟩
theorem SlR.own {w : World} {base l : Nat} {T : TypeId} {v : Value} {L : List (Int × Int)} (H : w.ownsRow base T 2 v L.length (cellsP L)) (hl : l ≤ base) : SlR l w.heap.size w v L := by
  rcases H.2 with ⟨rfl, h0⟩ | ⟨g, cap, cur, rfl, _⟩
  · have : L = [] := List.eq_nil_of_length_eq_zero h0
    subst this
    exact ⟨none, 0, rfl, fun k p hp => by simp at hp⟩
  · refine ⟨_, _, rfl, fun k p hp => ?_⟩
    obtain ⟨h1, h2⟩ := cellsP_get L k p hp
    have a1 := H.cells (g := g) rfl _ _ h1
    have a2 := H.cells (g := g) rfl _ _ h2
    have e : ∀ j, (⟨g, 0, none⟩ : Addr).add j = ⟨g, 0 + j, none⟩ := fun j => by unfold Addr.add; split <;> simp_all
    rw [e] at a1 a2
    exact ⟨g, rfl, Nat.le_trans hl (H.lt g rfl).1, World.block_lt_of_cell? w _ a1, a1, a2⟩
/-- a new slice of these points -/
def _root_.JR.Ent.slr (L : List (Int × Int)) : Ent := .rel (fun v l h w => SlR l h w v L) (fun _ _ _ _ _ hk H => H.keep hk)
end PF
namespace Go.Proofs.YtcoeiimohkofjaaGreat
open Go.RowKit PF JR

end Go.Proofs.YtcoeiimohkofjaaGreat
