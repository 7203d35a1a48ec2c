import Derived.Test.YtdhljiediafeoaaRows
import Derived.Test.YtdhljiediafeoaaFgo
import Derived.Deep.RegionWith
set_option linter.unusedSimpArgs false
set_option linter.unusedVariables false
namespace Go.Proofs.Ytdhljiediafeoaa
open Go.RowKit PF

theorem mixed : Try.prog.follows .mixedOrders = true := by kernel_rfl
end Go.Proofs.Ytdhljiediafeoaa
