import Derived.Test.YtlchljkmipejdaaGreatRows
import Derived.Test.YtlchljkmipejdaaGreatFgo
import Derived.Deep.RegionWith
set_option linter.unusedSimpArgs false
set_option linter.unusedVariables false
namespace Go.Proofs.YtlchljkmipejdaaGreat
open Go.RowKit PF

theorem mixed : Tryz.prog.follows .mixedOrders = true := by kernel_rfl
end Go.Proofs.YtlchljkmipejdaaGreat
