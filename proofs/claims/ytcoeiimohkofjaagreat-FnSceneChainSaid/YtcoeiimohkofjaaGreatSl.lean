import Derived.Test.YtcoeiimohkofjaaGreatRect
import Derived.Test.YtcoeiimohkofjaaGreatJa
import Derived.OwnWalk
import Derived.LoopTactic
set_option linter.unusedSimpArgs false
set_option linter.unusedVariables false
namespace PF
open Go Go.RowKit
def cellsP (l : List (Int × Int)) : List Value := l.flatMap fun p => [.int .i64 p.1, .int .i64 p.2]
theorem cellsP_get (l : List (Int × Int)) : ∀ (k : Nat) (p : Int × Int), l[k]? = some p → (cellsP l)[k * 2]? = some (.int .i64 p.1) ∧ (cellsP l)[k * 2 + 1]? = some (.int .i64 p.2) := by
  induction l with
  | nil => intro k p h; simp at h
  | cons a l ih =>
    intro k p h
    cases k with
    | zero => simp at h; subst h; simp [cellsP]
    | succ k =>
      have := ih k p (by simpa using h)
      rw [show (k + 1) * 2 = k * 2 + 2 from by omega]
      simpa [cellsP] using this
theorem cellsP_snoc (l : List (Int × Int)) (k : Nat) (p : Int × Int) (h : l[k]? = some p) : cellsP (l.take (k + 1)) = cellsP (l.take k) ++ [.int .i64 p.1, .int .i64 p.2] := by
  rw [List.take_add_one, h]
  simp [cellsP]
/-- the slice v holds the points l -/
def SlP (w : World) (v : Value) (l : List (Int × Int)) : Prop :=
  ∃ A c, v = .slice A l.length c ∧ ∀ k p, l[k]? = some p → ∃ b off, A = some ⟨b, off, none⟩ ∧ w.cell? ⟨b, off + k * 2, none⟩ = some (.int .i64 p.1) ∧ w.cell? ⟨b, off + k * 2 + 1, none⟩ = some (.int .i64 p.2)
theorem SlP.below {w w' : World} {v : Value} {l : List (Int × Int)} (h : SlP w v l) (hb : Below w.heap.size w w') : SlP w' v l := by
  obtain ⟨A, c, hv, hk⟩ := h
  refine ⟨A, c, hv, fun k p hp => ?_⟩
  obtain ⟨b, off, hA, h1, h2⟩ := hk k p hp
  exact ⟨b, off, hA, (hb.cell (World.block_lt_of_cell? w _ h1)).trans h1, (hb.cell (World.block_lt_of_cell? w _ h2)).trans h2⟩
theorem SlP.own {w : World} {base : Nat} {T : TypeId} {v : Value} {l : List (Int × Int)} (h : w.ownsRow base T 2 v l.length (cellsP l)) : SlP w v l := by
  rcases h.2 with ⟨rfl, h0⟩ | ⟨g, cap, cur, rfl, _⟩
  · have : l = [] := List.eq_nil_of_length_eq_zero h0
    subst this
    exact ⟨none, 0, rfl, fun k p hp => by simp at hp⟩
  · refine ⟨_, _, rfl, fun k p hp => ?_⟩
    obtain ⟨h1, h2⟩ := cellsP_get l k p hp
    have a1 := h.cells (g := g) rfl _ _ h1
    have a2 := h.cells (g := g) rfl _ _ h2
    have e : ∀ j, (⟨g, 0, none⟩ : Addr).add j = ⟨g, 0 + j, none⟩ := fun j => by unfold Addr.add; split <;> simp_all
    rw [e] at a1 a2
    exact ⟨g, 0, rfl, a1, a2⟩
theorem two_cells (w : World) (o : Obj) (T : TypeId) (x y : Value) : ∀ (j : Nat) (u : Value), [x, y][j]? = some u → ((w.alloc o).alloc (.cells #[x, y] T)).cell? ((⟨w.heap.size + 1, 0, none⟩ : Addr).add j) = some u := by
  intro j u h
  have e : (⟨w.heap.size + 1, 0, none⟩ : Addr).add j = ⟨w.heap.size + 1, 0 + j, none⟩ := by unfold Addr.add; split <;> simp_all
  rw [e]
  have hh : ((w.alloc o).alloc (.cells #[x, y] T)).heap[w.heap.size + 1]? = some (.cells #[x, y] T (0, 0)) := by
    have := heap_alloc_new (w.alloc o) (.cells #[x, y] T)
    simpa using this
  unfold World.cell?
  simp only [hh]
  match j, h with
  | 0, h => simpa using h
  | 1, h => simpa using h
theorem row_below {B : Nat} {w u w' : World} {row : Option Nat} (h : Below B w u) (hg : u.grownBy w' row) (hr : ∀ g, row = some g → B ≤ g) (hs : B ≤ u.heap.size) : Below B w w' := h.grown hg hs hr
end PF
namespace Go.Proofs.YtcoeiimohkofjaaGreat
open Go.RowKit PF JR


end Go.Proofs.YtcoeiimohkofjaaGreat
