import Derived.Test.YtlpibeloedfbdaaGreatJa
import Derived.Test.YtlpibeloedfbdaaGreatFgp
set_option linter.unusedSimpArgs false
set_option linter.unusedVariables false
/-! more on appends within a region that draws its order -/
namespace JR
open Go Go.RowKit

/-- a slice of one new block of these cells -/
def Ent.slc (T : TypeId) (cs : Array Value) : Ent :=
  .rel (fun v l h u => ∃ b, v = .slice (some ⟨b, 0, none⟩) 1 1 ∧ l ≤ b ∧ b < h ∧ u.heap[b]? = some (.cells cs T (0, 0)))
    (fun _ _ _ _ _ hk ⟨b, h1, h2, h3, h4⟩ => ⟨b, h1, h2, h3, (hk b h2 h3).trans h4⟩)

theorem slc_run {P : Program} {ops : Array Oper} {Q : Exit → Act → World → Prop} {G : World → Prop} {B0 : Nat} {plan : List Ent} {a0 : Act} {i : Nat} {o : Oper} {ns : List Need} {T : TypeId} {cs : Array Value}
    (hg : o.guard = none) (h : ∀ a w, G w → facts plan a0 a w ns → (execOp a.eval o).run P w = .ok (.value (.slice (some ⟨w.heap.size, 0, none⟩) 1 1)) (w.alloc (.cells cs T))) :
    OpOk P ops Q G B0 plan a0 i o (.slc T cs) ns :=
  OpOk.adds hg fun a w hG hf => ⟨_, _, h a w hG hf, Ext.alloc _ _, w.heap.size, rfl, Nat.le_refl _, by simp, alloc_get _ _⟩

theorem row_cells {w : World} {b : Nat} {cs : Array Value} {T : TypeId} (h : w.heap[b]? = some (.cells cs T (0, 0))) :
    ∀ (j : Nat) (u : Value), cs.toList[j]? = some u → w.cell? ((⟨b, 0, none⟩ : Addr).add j) = some u := by
  intro j u hu
  have e : (⟨b, 0, none⟩ : Addr).add j = ⟨b, 0 + j, none⟩ := by unfold Addr.add; split <;> simp_all
  rw [e]
  unfold World.cell?
  simp only [h]
  simpa using hu
theorem own_no (v : Value) : v.ownBlock = none ∨ v.ownBlock ≠ none := by cases v.ownBlock <;> simp
end JR
