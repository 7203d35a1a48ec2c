import Derived.Test.YtbfanhdofopnnaaGreatPlane
import Derived.Test.YtbfanhdofopnnaaGreatQV
set_option linter.unusedSimpArgs false
set_option linter.unusedVariables false
/-! Turned, scaled and moved: plain facts. -/
namespace PF
section
variable {Ax Ay Bx By Px Py : Int}
end
end PF
