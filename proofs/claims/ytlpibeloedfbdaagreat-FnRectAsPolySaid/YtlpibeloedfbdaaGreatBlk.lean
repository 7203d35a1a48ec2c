import Derived.Test.YtlpibeloedfbdaaGreatFgp
set_option linter.unusedSimpArgs false
set_option linter.unusedVariables false
/-! What a walk knows of several blocks at once. -/
namespace PF
open Go Go.RowKit JR
/-- blocks that are known whole, and that nothing of w was changed -/
structure Blk (w u : World) (L : List (Nat × Array Value × TypeId)) : Prop where
  known : ∀ (i : Nat) (x : Nat × Array Value × TypeId), L[i]? = some x → u.heap[x.1]? = some (.cells x.2.1 x.2.2 (0, 0))
  hb : Below w.heap.size w u
variable {w u u' : World} {L : List (Nat × Array Value × TypeId)}
theorem Blk.nil (w : World) : Blk w w [] := ⟨fun i x h => by simp at h, Below.refl _ _⟩
theorem Blk.ext (h : Blk w u L) (e : Below u.heap.size u u') : Blk w u' L :=
  ⟨fun i x hx => (e.block _ (lt_of_some (h.known i x hx))).trans (h.known i x hx), h.hb.trans (e.mono h.hb.size)⟩
theorem Blk.keep {X : List Nat} (h : Blk w u L) (e : Keep X u u') (hX : ∀ (i : Nat) (x : Nat × Array Value × TypeId), L[i]? = some x → x.1 ∉ X) (hw : ∀ x ∈ X, w.heap.size ≤ x) : Blk w u' L :=
  ⟨fun i x hx => (e.block _ (lt_of_some (h.known i x hx)) (hX i x hx)).trans (h.known i x hx), Keep.belowX e h.hb h.hb.size hw⟩
theorem Blk.push (h : Blk w u L) {b : Nat} (hs : u.heap.size = b) (cs : Array Value) (T : TypeId) : Blk w (u.alloc (.cells cs T)) ((b, cs, T) :: L) := by
  subst hs
  refine ⟨fun i x hx => ?_, h.hb.alloc h.hb.size _⟩
  cases i with
  | zero => simp at hx; subst hx; exact heap_alloc_new u _
  | succ i =>
    have hk := h.known i x (by simpa using hx)
    exact (Below.heap_alloc u _ _ (lt_of_some hk)).trans hk
theorem Blk.add (h : Blk w u L) {b : Nat} {cs : Array Value} {T : TypeId} (hk : u.heap[b]? = some (.cells cs T (0, 0))) : Blk w u ((b, cs, T) :: L) := by
  refine ⟨fun i x hx => ?_, h.hb⟩
  cases i with
  | zero => simp at hx; subst hx; exact hk
  | succ i => exact h.known i x (by simpa using hx)
theorem Blk.set (h : Blk w u L) (i : Nat) {b o : Nat} {cs : Array Value} {T : TypeId} {v : Value} (hi : L[i]? = some (b, cs, T)) (hne : ∀ (j : Nat) (x : Nat × Array Value × TypeId), j ≠ i → L[j]? = some x → x.1 ≠ b) (hw : w.heap.size ≤ b) :
    Blk w (u.setCell ⟨b, o, none⟩ v) (L.set i (b, cs.setIfInBounds o v, T)) := by
  have hk := h.known i _ hi
  refine ⟨fun j x hx => ?_, h.hb.setCell (by exact hw) _⟩
  by_cases hj : j = i
  · subst hj
    rw [List.getElem?_set_self (by rw [List.getElem?_eq_some_iff] at hi; exact hi.1)] at hx
    cases hx
    rw [setCell_row hk]
    exact setRow_same hk
  · rw [List.getElem?_set_ne (fun h => hj h.symm)] at hx
    exact (Below.heap_setCell _ _ _ _ (by show _ ≠ b; exact hne j x hj hx)).trans (h.known j x hx)
theorem Blk.cell (h : Blk w u L) (i : Nat) {b : Nat} {cs : Array Value} {T : TypeId} (hi : L[i]? = some (b, cs, T)) (o : Nat) : u.cell? ⟨b, o, none⟩ = cs[o]? := cellAt (h.known i _ hi) o
theorem Blk.frozen (h : Blk w u L) (i : Nat) {b : Nat} {cs : Array Value} {T : TypeId} (hi : L[i]? = some (b, cs, T)) (o : Nat) : u.frozen? ⟨b, o, none⟩ = false := frozenAt (h.known i _ hi) o
theorem Blk.drew (h : Blk w u L) : Blk w u.drew L := ⟨h.known, ⟨h.hb.os, h.hb.tape, h.hb.output, h.hb.size, h.hb.block⟩⟩
theorem Blk.tail {x : Nat × Array Value × TypeId} (h : Blk w u (x :: L)) : Blk w u L := ⟨fun i y hy => h.known (i + 1) y (by simpa using hy), h.hb⟩
/-- every other block is another one -/
def apart (b i : Nat) : Nat → List (Nat × Array Value × TypeId) → Prop
  | _, [] => True
  | k, x :: L => (k = i ∨ x.1 ≠ b) ∧ apart b i (k + 1) L
theorem apart_get {b i : Nat} : ∀ (L : List (Nat × Array Value × TypeId)) (k : Nat), apart b i k L → ∀ (j : Nat) (x : Nat × Array Value × TypeId), k + j ≠ i → L[j]? = some x → x.1 ≠ b := by
  intro L
  induction L with
  | nil => intro k _ j x _ hx; simp at hx
  | cons y L ih =>
    intro k h j x hj hx
    cases j with
    | zero => simp at hx; subst hx; exact h.1.elim (fun h => absurd h (by omega)) id
    | succ j => exact ih (k + 1) h.2 j x (by omega) (by simpa using hx)
theorem Blk.put (h : Blk w u L) (i : Nat) {b o : Nat} {cs : Array Value} {T : TypeId} {v : Value} (hi : L[i]? = some (b, cs, T)) (hne : apart b i 0 L) (hw : w.heap.size ≤ b) :
    Blk w (u.setCell ⟨b, o, none⟩ v) (L.set i (b, cs.setIfInBounds o v, T)) :=
  h.set i hi (fun j x hj hx => apart_get L 0 hne j x (by omega) hx) hw
theorem Blk.lt (h : Blk w u L) (i : Nat) {b : Nat} {cs : Array Value} {T : TypeId} (hi : L[i]? = some (b, cs, T)) : b < u.heap.size := lt_of_some (h.known i _ hi)
end PF
