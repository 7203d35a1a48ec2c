import Derived.Test.YtbfanhdofopnnaaGreatSg
import Derived.Test.YtbfanhdofopnnaaGreatRect
import Derived.Test.YtbfanhdofopnnaaGreatRay
set_option linter.unusedSimpArgs false
set_option linter.unusedVariables false
namespace Go.Proofs.YtbfanhdofopnnaaGreat
open Go.RowKit PF JR

theorem fieldOn (x y : Value) (w : World) : (Instr.field 125 (.agg #[x, y]) 1).run Tryz.prog w = .ok y w := by kernel_rfl


end Go.Proofs.YtbfanhdofopnnaaGreat
