import Derived.Test.YtbfanhdofopnnaaGreatQH
import Derived.Test.YtbfanhdofopnnaaGreatGc
import Derived.Test.YtbfanhdofopnnaaGreatQG
set_option linter.unusedSimpArgs false
set_option linter.unusedVariables false
/-! FnTurnPoint: the plain law of polygons with holes. -/
namespace Go.Proofs.YtbfanhdofopnnaaGreat
open Go.RowKit PF JR
end Go.Proofs.YtbfanhdofopnnaaGreat
