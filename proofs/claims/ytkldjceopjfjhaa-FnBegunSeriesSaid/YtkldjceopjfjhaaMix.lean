import Derived.Test.YtkldjceopjfjhaaRows
import Derived.Test.YtkldjceopjfjhaaFgo
import Derived.Deep.RegionWith
set_option linter.unusedSimpArgs false
set_option linter.unusedVariables false
namespace Go.Proofs.Ytkldjceopjfjhaa
open Go.RowKit PF

theorem mixed : Try.prog.follows .mixedOrders = true := by kernel_rfl
end Go.Proofs.Ytkldjceopjfjhaa
