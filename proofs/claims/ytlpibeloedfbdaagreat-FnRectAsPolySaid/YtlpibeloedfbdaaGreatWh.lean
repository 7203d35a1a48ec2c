import Derived.Test.YtlpibeloedfbdaaGreatQW
import Derived.Test.YtlpibeloedfbdaaGreatQN
set_option linter.unusedSimpArgs false
set_option linter.unusedVariables false
/-! The plain law of FnHolesAlike: holes in another order, each begun elsewhere. -/
namespace Go.Proofs.YtlpibeloedfbdaaGreat
open Go.RowKit PF JR
section
variable {AT : Nat} {l m : List (Int × Int)} {H G : List (List (Int × Int))} (h3 : ∀ x ∈ H, 3 ≤ x.length)
include h3
end
end Go.Proofs.YtlpibeloedfbdaaGreat
