import Derived.Test.YtlpibeloedfbdaaGreatQW
import Derived.Test.YtlpibeloedfbdaaGreatQP
set_option linter.unusedSimpArgs false
set_option linter.unusedVariables false
/-! The plain law of FnRectSides: a rectangle and a line meet just if a point of the line is within, or a segment meets a side. -/
namespace PF
section
variable {x1 y1 x2 y2 a b c d : Int}
theorem pos_mul {m n : Int} (hm : 0 < m) (hn : 0 < n) : 0 < m * n := Int.mul_pos hm hn
theorem neg_mul {m n : Int} (hm : 0 < m) (hn : n < 0) : m * n < 0 := Int.mul_neg_of_pos_of_neg hm hn
/-! the sides as `meets` has them -/
end
end PF
set_option linter.unusedSimpArgs false
set_option linter.unusedVariables false
/-! The plain law of FnRectSides, joined. -/
namespace Go.Proofs.YtlpibeloedfbdaaGreat
open Go.RowKit PF JR
/-- a rectangle's corners, as FnRectSides has them -/
def crn (a b c d : Int) : List (Int × Int) := [(a, b), (c, b), (c, d), (a, d)]
/-- segment j of m meets side k -/
def qs (a b c d : Int) (m : List (Int × Int)) (j k : Nat) : Bool := meets (at' m j).1 (at' m j).2 (nxp m j).1 (nxp m j).2 (at' (crn a b c d) k).1 (at' (crn a b c d) k).2 (nxp (crn a b c d) k).1 (nxp (crn a b c d) k).2
def os (a b c d : Int) (m : List (Int × Int)) (j k : Nat) : Bool := ovl (at' m j).1 (at' m j).2 (nxp m j).1 (nxp m j).2 (at' (crn a b c d) k).1 (at' (crn a b c d) k).2 (nxp (crn a b c d) k).1 (nxp (crn a b c d) k).2
/-- point j of m is within, or its segment meets a side -/
def rhit (a b c d : Int) (m : List (Int × Int)) (j : Nat) : Bool := inB (a, b, c, d) (at' m j) || (decide (j + 1 < m.length) && anyN (qs a b c d m j) 4)
section
variable {a b c d : Int}
theorem rect_has (h1 : a < c) (h2 : b < d) (p : Int × Int) : ringHas (rl a b c d) p true = inB (a, b, c, d) p := by
  obtain ⟨x, y⟩ := p
  have e : ringHas (rl a b c d) (x, y) true = _ := qd_has (a, b) (c, b) (c, d) (a, d) (x, y) true
  rw [e, show ppB true (qd (a, b) (c, b) (c, d) (a, d)) = (a, b, c, d) from rl_box (Int.le_of_lt h1) (Int.le_of_lt h2)]
  cases g : inB (a, b, c, d) (x, y) with
  | false => rfl
  | true =>
    have g := of_decide_eq_true g
    simp only at g
    simp only [Bool.true_and, Bool.and_true, Bool.false_or]
    by_cases e1 : y = b
    · have : rcOn a b c b x y = true := rcOn_flat rfl e1 (.inl ⟨g.1, g.2.1⟩)
      rw [this]; simp
    by_cases e2 : y = d
    · have : rcOn c d a d x y = true := rcOn_flat rfl e2 (.inr ⟨g.1, g.2.1⟩)
      rw [this]; simp
    by_cases e3 : x = c
    · have : rcOn c b c d x y = true := rcOn_up h2 g.2.2.1 g.2.2.2 (by rw [e3]; simp)
      rw [this]; simp
    by_cases e4 : x = a
    · have : rcOn a d a b x y = true := rcOn_down h2 g.2.2.1 g.2.2.2 (by rw [e4]; simp)
      rw [this]; simp
    have z0 := neg_mul (m := d - b) (n := x - c) (by omega) (by omega)
    have z1 := pos_mul (m := d - b) (n := x - a) (by omega) (by omega)
    have f0 : rcIn a b c b x y = false := rcIn_flat rfl
    have f2 : rcIn c d a d x y = false := rcIn_flat rfl
    have f1 : rcIn c b c d x y = true := by
      unfold rcIn
      rw [decide_eq_true_iff]
      left
      rw [Int.sub_self, Int.mul_zero]
      exact ⟨g.2.2.1, by omega, z0⟩
    have f3 : rcIn a d a b x y = false := by
      unfold rcIn
      rw [decide_eq_false_iff_not]
      rw [Int.sub_self, Int.mul_zero, show (b - d) * (x - a) = -((d - b) * (x - a)) from by grind]
      omega
    rw [f0, f1, f2, f3]
    cases (((rcOn a b c b x y || rcOn c b c d x y) || rcOn c d a d x y) || rcOn a d a b x y) <;> rfl
theorem sx_meets {Ax Ay Bx By Cx Cy Dx Dy : Int} (ho : ovl Ax Ay Bx By Cx Cy Dx Dy = false) : sx Ax Ay Bx By Cx Cy Dx Dy = meets Ax Ay Bx By Cx Cy Dx Dy := by
  have h2 := (ovl_false ho).1
  unfold sx
  split
  · rename_i h; exact (meets_far_y ho h).symm
  split
  · rename_i h; exact (meets_far_x ho h).symm
  split
  · rename_i h; exact (meets_end h).symm
  split
  · rename_i h
    have h3 : side Ax Ay Bx By Dx Dy ≠ 0 := by
      rcases h2 with g | g
      · exact absurd h g
      · exact g
    rw [on_iff h h3, on_not h3, Bool.or_false]
  · rfl
end
end Go.Proofs.YtlpibeloedfbdaaGreat
