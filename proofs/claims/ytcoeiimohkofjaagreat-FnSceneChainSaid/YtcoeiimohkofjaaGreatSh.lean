import Derived.Test.YtcoeiimohkofjaaGreatSg
import Derived.Test.YtcoeiimohkofjaaGreatRect
import Derived.Test.YtcoeiimohkofjaaGreatRay
set_option linter.unusedSimpArgs false
set_option linter.unusedVariables false
namespace Go.Proofs.YtcoeiimohkofjaaGreat
open Go.RowKit PF JR

theorem fieldOn (x y : Value) (w : World) : (Instr.field 196 (.agg #[x, y]) 1).run Tryz.prog w = .ok y w := by kernel_rfl


end Go.Proofs.YtcoeiimohkofjaaGreat
