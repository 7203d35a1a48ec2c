import Derived.Test.YtdlcckkphjpeoaaGreatSl
import Derived.LoopN
set_option linter.unusedSimpArgs false
set_option linter.unusedVariables false
namespace PF
open Go Go.RowKit
def rotN : Nat → Int × Int → Int × Int
  | 0, p => p
  | n + 1, p => rotN n (-p.2, p.1)
/-- where a turn takes a point -/
def tpt (K S DX DY : Int) (p : Int × Int) : Int × Int :=
  let q := rotN (K % 4).toNat (if 4 ≤ K then (-p.1, p.2) else p)
  (q.1 * S + DX, q.2 * S + DY)
theorem mulS {a s : Int} (ha : -65536 ≤ a ∧ a ≤ 65536) (hs : 1 ≤ s ∧ s ≤ 8) : -524288 ≤ a * s ∧ a * s ≤ 524288 := by
  have h1 : (a * s).natAbs ≤ 65536 * 8 := by
    rw [Int.natAbs_mul]; exact Nat.mul_le_mul (by omega) (by omega)
  omega
end PF
