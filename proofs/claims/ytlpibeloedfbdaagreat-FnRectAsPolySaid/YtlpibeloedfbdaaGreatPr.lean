import Derived.Test.YtlpibeloedfbdaaGreatPt
set_option linter.unusedSimpArgs false
set_option linter.unusedVariables false
/-! Rectangles, turned, scaled and moved: plain facts. -/
namespace PF
section
variable (S DX DY x y : Int)
end

section
variable {K S DX DY X0 Y0 X1 Y1 U0 V0 U1 V1 PX PY : Int}
end
end PF
