import Derived.Test.YtbfanhdofopnnaaGreatJb
import Derived.Test.YtbfanhdofopnnaaGreatJc
set_option linter.unusedSimpArgs false
set_option linter.unusedVariables false
/-! Values that only a slot knows: within a region that draws its order. -/
namespace JR
open Go Go.RowKit
/-- what F makes of slot t's value -/
def Ent.fnS (t : Nat) (F : Value → Value) : Ent where
  E := fun v _ _ a _ => v = F (a.eval (.tmp t))
  sl := [t]
  old := []
  still := false
  news := false
  hsl := fun _ _ _ _ _ _ h h1 => by rw [← h t (by simp)]; exact h1
  hext := fun _ _ _ _ _ _ _ _ h => h
  hstill := fun h => Bool.noConfusion h
  hnews := fun h => Bool.noConfusion h
  hrow := fun _ _ _ _ _ _ _ _ _ _ h => h
  hpext := fun _ _ _ h => h
  hprow := fun _ _ _ _ h => h
/-- the block behind slot t holds what F makes of slot s's value -/
def Ent.filledS (t s : Nat) (F : Value → Array Value) (T : TypeId) : Ent where
  E := fun _ _ _ a w => ∃ b, a.eval (.tmp t) = .pointer (some ⟨b, 0, none⟩) ∧ w.heap[b]? = some (.cells (F (a.eval (.tmp s))) T (0, 0))
  sl := [t, s]
  old := []
  still := false
  news := false
  hsl := fun _ _ _ _ _ _ h ⟨b, h1, h2⟩ => ⟨b, by rw [← h t (by simp)]; exact h1, by rw [← h s (by simp)]; exact h2⟩
  hext := fun _ _ _ _ _ _ _ e ⟨b, h1, h2⟩ => ⟨b, h1, (e.block b (lt_of_some h2)).trans h2⟩
  hstill := fun h => Bool.noConfusion h
  hnews := fun h => Bool.noConfusion h
  hrow := fun _ _ _ _ _ _ _ _ hn _ ⟨b', h1, h2⟩ => ⟨b', h1, (setRow_other (fun he => hn t (by simp) (by rw [← he]; exact h1))).trans h2⟩
  hpext := fun _ _ _ h => h
  hprow := fun _ _ _ _ h => h
section
variable {P : Program} {ops : Array Oper} {Q : Exit → Act → World → Prop} {G : World → Prop} {B0 : Nat} {plan : List Ent} {a0 : Act} {i : Nat} {o : Oper} {ns : List Need}
theorem OpOk.fnS {t : Nat} {F : Value → Value} (hg : o.guard = none) (h : ∀ a w, G w → facts plan a0 a w ns → (execOp a.eval o).run P w = .ok (.value (F (a.eval (.tmp t)))) w) :
    OpOk P ops Q G B0 plan a0 i o (.fnS t F) ns :=
  OpOk.adds hg fun a w hG hf => ⟨_, _, h a w hG hf, Ext.refl _, rfl⟩
end
end JR
