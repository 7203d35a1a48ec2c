import Derived.Test.YtbeoijpdacpaaaaGreatQG
import Derived.Test.YtbeoijpdacpaaaaGreatPt
set_option linter.unusedSimpArgs false
set_option linter.unusedVariables false
/-! A point in a ring: turned. -/
namespace PF

section
variable {Ax Ay Bx By Px Py a b c d : Int}
end
/-- a map of the plane that keeps which rings hold which points -/
def Good (f : Int × Int → Int × Int) : Prop := ∀ (l : List (Int × Int)) (p : Int × Int), 0 < l.length → aon (l.map f) (f p) l.length = aon l p l.length ∧ (aon l p l.length = false → xrs (l.map f) (f p) l.length = xrs l p l.length)
theorem Good.id : Good (fun p => p) := fun l p _ => by simp
end PF
