import Derived.Test.YtlpibeloedfbdaaGreatSg
import Derived.Test.YtlpibeloedfbdaaGreatRect
import Derived.Test.YtlpibeloedfbdaaGreatRay
set_option linter.unusedSimpArgs false
set_option linter.unusedVariables false
namespace Go.Proofs.YtlpibeloedfbdaaGreat
open Go.RowKit PF JR

theorem fieldOn (x y : Value) (w : World) : (Instr.field 163 (.agg #[x, y]) 1).run Tryz.prog w = .ok y w := by kernel_rfl


end Go.Proofs.YtlpibeloedfbdaaGreat
