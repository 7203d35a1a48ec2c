import Derived.Test.YtlpibeloedfbdaaGreatSr
import Derived.Test.YtlpibeloedfbdaaGreatBlk
set_option linter.unusedSimpArgs false
set_option linter.unusedVariables false
namespace PF
open Go
structure Stop0 (p : Prop) : Prop where out : p
theorem retB0 {b c : Bool} {P : Prop} [Decidable P] (h : decide P = c) (h2 : b = true ↔ P) : Ending.returned (.bool b) = .returned (.bool c) := by
  subst h; congr 2; cases b <;> simp_all
end PF
namespace Go.Proofs.YtlpibeloedfbdaaGreat
open Go.RowKit PF JR

theorem eqZ_c {x : Nat} {n : Int} (hx : Rep x n) (w : World) : Calls Tryz.prog 143 #[fl x] w fun e w' => e = .returned (.bool (decide (n = 0))) ∧ w' = w := by
  have o := oR hx rep0
  generalize hAns : decide (n = 0) = ans
  go_enter Tryz.func143, Tryz.ntmps143
  go_wp2
  all_goals
    go_ret
    exact ⟨retB0 hAns (by simp; omega), rfl⟩

/-- on which side of the line from a to b the point p is -/
def _root_.PF.side (ax ay bx b_y px py : Int) : Int := (bx - ax) * (py - ay) - (b_y - ay) * (px - ax)



set_option maxHeartbeats 400000 in
theorem side_c (Ax Ay Bx By Px Py : Int) (b1 : -16384 ≤ Ax ∧ Ax ≤ 16384 ∧ -16384 ≤ Ay ∧ Ay ≤ 16384 ∧ -16384 ≤ Bx ∧ Bx ≤ 16384 ∧ -16384 ≤ By ∧ By ≤ 16384 ∧ -16384 ≤ Px ∧ Px ≤ 16384 ∧ -16384 ≤ Py ∧ Py ≤ 16384) (w : World) :
    Calls Tryz.prog 21 #[.agg #[.int .i64 Ax, .int .i64 Ay], .agg #[.int .i64 Bx, .int .i64 By], .agg #[.int .i64 Px, .int .i64 Py]] w fun e w' => e = .returned (.int .i64 (side Ax Ay Bx By Px Py)) ∧ Below w.heap.size w w' := by
  have k1 := bmul (a := Bx - Ax) (b := Py - Ay) (by omega) (by omega)
  have k2 := bmul (a := By - Ay) (b := Px - Ax) (by omega) (by omega)
  unfold side
  go_enter Tryz.func21, Tryz.ntmps21
  go_wp2
  go_ret
  exact ⟨rfl, (((Below.refl _ _).alloc (Nat.le_refl _) _).alloc (by simp) _).alloc (by simp; omega) _⟩

/-- two segments lie on one line, or one is a point -/
def _root_.PF.ovl (Ax Ay Bx By Cx Cy Dx Dy : Int) : Bool :=
  (decide (side Ax Ay Bx By Cx Cy = 0) && decide (side Ax Ay Bx By Dx Dy = 0)) || (decide (side Cx Cy Dx Dy Ax Ay = 0) && decide (side Cx Cy Dx Dy Bx By = 0))

end Go.Proofs.YtlpibeloedfbdaaGreat
