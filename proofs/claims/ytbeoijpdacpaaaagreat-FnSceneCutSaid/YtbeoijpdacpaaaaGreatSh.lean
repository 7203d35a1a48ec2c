import Derived.Test.YtbeoijpdacpaaaaGreatSg
import Derived.Test.YtbeoijpdacpaaaaGreatRect
import Derived.Test.YtbeoijpdacpaaaaGreatRay
set_option linter.unusedSimpArgs false
set_option linter.unusedVariables false
namespace Go.Proofs.YtbeoijpdacpaaaaGreat
open Go.RowKit PF JR

theorem fieldOn (x y : Value) (w : World) : (Instr.field 199 (.agg #[x, y]) 1).run Tryz.prog w = .ok y w := by kernel_rfl


end Go.Proofs.YtbeoijpdacpaaaaGreat
