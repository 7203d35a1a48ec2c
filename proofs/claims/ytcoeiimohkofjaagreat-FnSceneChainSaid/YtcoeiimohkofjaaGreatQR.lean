import Derived.Test.YtcoeiimohkofjaaGreatQW
import Derived.Test.YtcoeiimohkofjaaGreatQP
set_option linter.unusedSimpArgs false
set_option linter.unusedVariables false
/-! The plain law of FnRectSides: a rectangle and a line meet just if a point of the line is within, or a segment meets a side. -/
namespace PF
section
variable {x1 y1 x2 y2 a b c d : Int}
/-- which side of the line through the segment a point is on -/
theorem side_mix {u v : Int} : side x1 y1 x2 y2 u v = (v - y1) * (x2 - u) + (y2 - v) * (x1 - u) := by
  unfold side; grind
theorem nonneg_mul {m n : Int} (hm : 0 ≤ m) (hn : 0 ≤ n) : 0 ≤ m * n := Int.mul_nonneg hm hn
theorem neg_mul {m n : Int} (hm : 0 < m) (hn : n < 0) : m * n < 0 := Int.mul_neg_of_pos_of_neg hm hn
theorem nonpos_mul {m n : Int} (hm : 0 ≤ m) (hn : n ≤ 0) : m * n ≤ 0 := Int.mul_nonpos_of_nonneg_of_nonpos hm hn
theorem nn_mul {m n : Int} (hm : m ≤ 0) (hn : 0 ≤ n) : m * n ≤ 0 := Int.mul_nonpos_of_nonpos_of_nonneg hm hn
theorem npnp_mul {m n : Int} (hm : m ≤ 0) (hn : n ≤ 0) : 0 ≤ m * n := Int.mul_nonneg_of_nonpos_of_nonpos hm hn
def mL (x1 y1 x2 y2 a b _c d : Int) : Prop := apartB (x1 - a) (x2 - a) ∧ apartB (side x1 y1 x2 y2 a b) (side x1 y1 x2 y2 a d)
/-! the sides as `meets` has them -/
end
end PF
set_option linter.unusedSimpArgs false
set_option linter.unusedVariables false
/-! The plain law of FnRectSides, joined. -/
namespace Go.Proofs.YtcoeiimohkofjaaGreat
open Go.RowKit PF JR
/-- a rectangle's corners, as FnRectSides has them -/
def crn (a b c d : Int) : List (Int × Int) := [(a, b), (c, b), (c, d), (a, d)]
/-- segment j of m meets side k -/
def qs (a b c d : Int) (m : List (Int × Int)) (j k : Nat) : Bool := meets (at' m j).1 (at' m j).2 (nxp m j).1 (nxp m j).2 (at' (crn a b c d) k).1 (at' (crn a b c d) k).2 (nxp (crn a b c d) k).1 (nxp (crn a b c d) k).2
def os (a b c d : Int) (m : List (Int × Int)) (j k : Nat) : Bool := ovl (at' m j).1 (at' m j).2 (nxp m j).1 (nxp m j).2 (at' (crn a b c d) k).1 (at' (crn a b c d) k).2 (nxp (crn a b c d) k).1 (nxp (crn a b c d) k).2
/-- point j of m is within, or its segment meets a side -/
def rhit (a b c d : Int) (m : List (Int × Int)) (j : Nat) : Bool := inB (a, b, c, d) (at' m j) || (decide (j + 1 < m.length) && anyN (qs a b c d m j) 4)
section
variable {a b c d : Int}
theorem sx_meets {Ax Ay Bx By Cx Cy Dx Dy : Int} (ho : ovl Ax Ay Bx By Cx Cy Dx Dy = false) : sx Ax Ay Bx By Cx Cy Dx Dy = meets Ax Ay Bx By Cx Cy Dx Dy := by
  have h2 := (ovl_false ho).1
  unfold sx
  split
  · rename_i h; exact (meets_far_y ho h).symm
  split
  · rename_i h; exact (meets_far_x ho h).symm
  split
  · rename_i h; exact (meets_end h).symm
  split
  · rename_i h
    have h3 : side Ax Ay Bx By Dx Dy ≠ 0 := by
      rcases h2 with g | g
      · exact absurd h g
      · exact g
    rw [on_iff h h3, on_not h3, Bool.or_false]
  · rfl
end
end Go.Proofs.YtcoeiimohkofjaaGreat
