import Derived.Test.YtcoeiimohkofjaaGreatSr
import Derived.Test.YtcoeiimohkofjaaGreatBlk
set_option linter.unusedSimpArgs false
set_option linter.unusedVariables false
namespace PF
open Go
structure Stop0 (p : Prop) : Prop where out : p
theorem retB0 {b c : Bool} {P : Prop} [Decidable P] (h : decide P = c) (h2 : b = true ↔ P) : Ending.returned (.bool b) = .returned (.bool c) := by
  subst h; congr 2; cases b <;> simp_all
end PF
namespace Go.Proofs.YtcoeiimohkofjaaGreat
open Go.RowKit PF JR

theorem eqZ_c {x : Nat} {n : Int} (hx : Rep x n) (w : World) : Calls Tryz.prog 178 #[fl x] w fun e w' => e = .returned (.bool (decide (n = 0))) ∧ w' = w := by
  have o := oR hx rep0
  generalize hAns : decide (n = 0) = ans
  go_enter Tryz.func178, Tryz.ntmps178
  go_wp2
  all_goals
    go_ret
    exact ⟨retB0 hAns (by simp; omega), rfl⟩

/-- on which side of the line from a to b the point p is -/
def _root_.PF.side (ax ay bx b_y px py : Int) : Int := (bx - ax) * (py - ay) - (b_y - ay) * (px - ax)




/-- two segments lie on one line, or one is a point -/
def _root_.PF.ovl (Ax Ay Bx By Cx Cy Dx Dy : Int) : Bool :=
  (decide (side Ax Ay Bx By Cx Cy = 0) && decide (side Ax Ay Bx By Dx Dy = 0)) || (decide (side Cx Cy Dx Dy Ax Ay = 0) && decide (side Cx Cy Dx Dy Bx By = 0))

end Go.Proofs.YtcoeiimohkofjaaGreat
