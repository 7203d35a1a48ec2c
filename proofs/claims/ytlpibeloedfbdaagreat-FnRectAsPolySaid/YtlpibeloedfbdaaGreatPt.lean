import Derived.Test.YtlpibeloedfbdaaGreatPlane
import Derived.Test.YtlpibeloedfbdaaGreatQV
set_option linter.unusedSimpArgs false
set_option linter.unusedVariables false
/-! Turned, scaled and moved: plain facts. -/
namespace PF
section
variable {Ax Ay Bx By Px Py : Int}
theorem cross_swap : (Px - Bx) * (Ay - By) - (Py - By) * (Ax - Bx) = (Py - Ay) * (Bx - Ax) - (Px - Ax) * (By - Ay) := by
  have := down_slope (Ax := Ax) (Ay := Ay) (Bx := Bx) (By := By) (Px := Px) (Py := Py)
  rw [Int.mul_comm (Px - Bx), Int.mul_comm (Px - Ax)]; exact this
theorem rcOn_swap : rcOn Bx By Ax Ay Px Py = rcOn Ax Ay Bx By Px Py := by
  have h := cross_swap (Ax := Ax) (Ay := Ay) (Bx := Bx) (By := By) (Px := Px) (Py := Py)
  unfold rcOn
  apply decide_eq_decide.2
  constructor <;> (rintro ⟨h1, h2, h3⟩; exact ⟨by omega, by omega, by omega⟩)
theorem rcIn_swap : rcIn Bx By Ax Ay Px Py = rcIn Ax Ay Bx By Px Py := by
  have h := down_slope (Ax := Ax) (Ay := Ay) (Bx := Bx) (By := By) (Px := Px) (Py := Py)
  unfold rcIn
  apply decide_eq_decide.2
  constructor <;> (rintro (⟨h1, h2, h3⟩ | ⟨h1, h2, h3⟩); exact .inr ⟨by omega, by omega, by omega⟩; exact .inl ⟨by omega, by omega, by omega⟩)
end
end PF
