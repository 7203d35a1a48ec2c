import Derived.Test.YtcoeiimohkofjaaGreatQV
import Derived.LoopN
import Derived.Test.YtcoeiimohkofjaaGreatJb
set_option linter.unusedSimpArgs false
set_option linter.unusedVariables false
namespace Go.Proofs.YtcoeiimohkofjaaGreat
open Go.RowKit PF JR

structure _root_.PF.Stop (p : Prop) : Prop where out : p
theorem _root_.PF.stop_region {P : Program} {id : Nat} {ops : Array Oper} {Q : Exit → Act → World → Prop} {a : Act} {w : World} (h : Stop ((Code.region id ops true).wp P Q a w)) : (Code.region id ops true).wp P Q a w := h.out
theorem _root_.PF.own_one {w : World} {base : Nat} {T : TypeId} {size n : Nat} {v : Value} {xs : List Value} (h : w.ownsRow base T size v n xs) : v.oneCell' = true := by
  rcases h.2 with ⟨rfl, _⟩ | ⟨g, cap, cur, rfl, _⟩ <;> rfl



end Go.Proofs.YtcoeiimohkofjaaGreat
