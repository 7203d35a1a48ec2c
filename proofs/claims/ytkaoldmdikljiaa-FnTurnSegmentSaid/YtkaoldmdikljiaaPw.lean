import Derived.Test.YtkaoldmdikljiaaPs
set_option linter.unusedSimpArgs false
set_option linter.unusedVariables false
/-! Two segments, turned, scaled and moved, or with their ends exchanged: plain facts. -/
namespace PF
section
variable {K S DX DY : Int} {a b c d p : Int × Int}
def tsg (K S : Int) : Int := if 4 ≤ K then -(S * S) else S * S
theorem tsg_ne (hS : 0 < S) : tsg K S ≠ 0 := by
  have : 0 < S * S := Int.mul_pos hS hS
  unfold tsg; split <;> omega
theorem side_tpt (hK : 0 ≤ K ∧ K ≤ 7) : side (tpt K S DX DY a).1 (tpt K S DX DY a).2 (tpt K S DX DY b).1 (tpt K S DX DY b).2 (tpt K S DX DY p).1 (tpt K S DX DY p).2 = tsg K S * side a.1 a.2 b.1 b.2 p.1 p.2 := by
  obtain ⟨ax, ay⟩ := a
  obtain ⟨bx, b_y⟩ := b
  obtain ⟨px, py⟩ := p
  rcases (by omega : K = 0 ∨ K = 1 ∨ K = 2 ∨ K = 3 ∨ K = 4 ∨ K = 5 ∨ K = 6 ∨ K = 7) with rfl | rfl | rfl | rfl | rfl | rfl | rfl | rfl <;>
    simp only [tpt0, tpt1, tpt2, tpt3, tpt4, tpt5, tpt6, tpt7, side, tsg] <;> simp <;> grind
theorem c_zero {c m : Int} (hc : c ≠ 0) : c * m = 0 ↔ m = 0 := by
  constructor
  · intro h; exact (Int.mul_eq_zero.1 h).resolve_left hc
  · rintro rfl; simp
theorem c_le {c m : Int} (hc : 0 < c) : c * m ≤ 0 ↔ m ≤ 0 := by
  have h := mul_sgn (a := -m) hc
  rw [Int.neg_mul, Int.mul_comm] at h
  omega
theorem c_ge {c m : Int} (hc : 0 < c) : 0 ≤ c * m ↔ 0 ≤ m := by
  have h := mul_sgn (a := m) hc
  rw [Int.mul_comm] at h
  exact h
theorem apart_c {c m n : Int} (hc : c ≠ 0) : apartB (c * m) (c * n) ↔ apartB m n := by
  unfold apartB
  rcases Int.lt_or_gt_of_ne hc with h | h
  · have e1 : ∀ k : Int, c * k = -((-c) * k) := fun k => by rw [Int.neg_mul, Int.neg_neg]
    have k1 := c_le (c := -c) (m := m) (by omega)
    have k2 := c_le (c := -c) (m := n) (by omega)
    have k3 := c_ge (c := -c) (m := m) (by omega)
    have k4 := c_ge (c := -c) (m := n) (by omega)
    rw [e1 m, e1 n]
    generalize -c * m = u at *
    generalize -c * n = v at *
    omega
  · rw [c_le h, c_le h, c_ge h, c_ge h]
theorem meets_tpt (hK : 0 ≤ K ∧ K ≤ 7) (hS : 0 < S) : meets (tpt K S DX DY a).1 (tpt K S DX DY a).2 (tpt K S DX DY b).1 (tpt K S DX DY b).2 (tpt K S DX DY c).1 (tpt K S DX DY c).2 (tpt K S DX DY d).1 (tpt K S DX DY d).2 = meets a.1 a.2 b.1 b.2 c.1 c.2 d.1 d.2 := by
  unfold meets
  apply decide_eq_decide.2
  rw [side_tpt hK, side_tpt hK, side_tpt hK, side_tpt hK, apart_c (tsg_ne hS), apart_c (tsg_ne hS)]
theorem col_tpt (hK : 0 ≤ K ∧ K ≤ 7) (hS : 0 < S) : decide (side (tpt K S DX DY a).1 (tpt K S DX DY a).2 (tpt K S DX DY b).1 (tpt K S DX DY b).2 (tpt K S DX DY p).1 (tpt K S DX DY p).2 = 0) = decide (side a.1 a.2 b.1 b.2 p.1 p.2 = 0) := by
  apply decide_eq_decide.2
  rw [side_tpt hK, c_zero (tsg_ne hS)]
theorem ovl_tpt (hK : 0 ≤ K ∧ K ≤ 7) (hS : 0 < S) : ovl (tpt K S DX DY a).1 (tpt K S DX DY a).2 (tpt K S DX DY b).1 (tpt K S DX DY b).2 (tpt K S DX DY c).1 (tpt K S DX DY c).2 (tpt K S DX DY d).1 (tpt K S DX DY d).2 = ovl a.1 a.2 b.1 b.2 c.1 c.2 d.1 d.2 := by
  unfold ovl
  rw [col_tpt hK hS, col_tpt hK hS, col_tpt hK hS, col_tpt hK hS]
end
section
variable {Ax Ay Bx By Cx Cy Dx Dy : Int}
theorem side_swap : side Bx By Ax Ay Cx Cy = -side Ax Ay Bx By Cx Cy := by unfold side; grind
theorem apart_neg {m n : Int} : apartB (-m) (-n) ↔ apartB m n := by unfold apartB; omega
theorem apart_comm {m n : Int} : apartB m n ↔ apartB n m := by unfold apartB; omega
theorem meets_swap : meets Bx By Ax Ay Cx Cy Dx Dy = meets Ax Ay Bx By Cx Cy Dx Dy := by
  unfold meets
  apply decide_eq_decide.2
  rw [side_swap (Cx := Cx) (Cy := Cy), side_swap (Cx := Dx) (Cy := Dy), apart_neg, apart_comm (m := side Cx Cy Dx Dy Bx By)]
theorem col_swap : decide (side Bx By Ax Ay Cx Cy = 0) = decide (side Ax Ay Bx By Cx Cy = 0) := by
  apply decide_eq_decide.2
  rw [side_swap]; omega
theorem ovl_swap : ovl Bx By Ax Ay Cx Cy Dx Dy = ovl Ax Ay Bx By Cx Cy Dx Dy := by
  unfold ovl
  rw [col_swap (Cx := Cx) (Cy := Cy), col_swap (Cx := Dx) (Cy := Dy), Bool.and_comm (decide (side Cx Cy Dx Dy Bx By = 0))]
end
section
variable {K S DX DY Ax Ay Bx By : Int}
theorem box_tpt (hK : 0 ≤ K ∧ K ≤ 7) (hS : 0 < S) :
    rx0 K S DX DY (min Ax Bx) (min Ay By) (max Ax Bx) (max Ay By) = min (tpt K S DX DY (Ax, Ay)).1 (tpt K S DX DY (Bx, By)).1 ∧
    ry0 K S DX DY (min Ax Bx) (min Ay By) (max Ax Bx) (max Ay By) = min (tpt K S DX DY (Ax, Ay)).2 (tpt K S DX DY (Bx, By)).2 ∧
    rx1 K S DX DY (min Ax Bx) (min Ay By) (max Ax Bx) (max Ay By) = max (tpt K S DX DY (Ax, Ay)).1 (tpt K S DX DY (Bx, By)).1 ∧
    ry1 K S DX DY (min Ax Bx) (min Ay By) (max Ax Bx) (max Ay By) = max (tpt K S DX DY (Ax, Ay)).2 (tpt K S DX DY (Bx, By)).2 := by
  have a1 := mulS_le (a := Ax) (b := Bx) hS
  have a2 := mulS_le (a := Ay) (b := By) hS
  have b1 := mulS_le (a := Bx) (b := Ax) hS
  have b2 := mulS_le (a := By) (b := Ay) hS
  unfold rx0 ry0 rx1 ry1
  rcases Int.le_total Ax Bx with h1 | h1 <;> rcases Int.le_total Ay By with h2 | h2 <;> simp only [Int.min_eq_left, Int.min_eq_right, Int.max_eq_left, Int.max_eq_right, h1, h2] <;>
    rcases (by omega : K = 0 ∨ K = 1 ∨ K = 2 ∨ K = 3 ∨ K = 4 ∨ K = 5 ∨ K = 6 ∨ K = 7) with rfl | rfl | rfl | rfl | rfl | rfl | rfl | rfl
  all_goals try simp only [tpt0, tpt1, tpt2, tpt3, tpt4, tpt5, tpt6, tpt7]
  all_goals refine ⟨?_, ?_, ?_, ?_⟩ <;> first | exact trivial | omega
end
theorem tpt_bd2 (K S DX DY : Int) (hK : 0 ≤ K ∧ K ≤ 7) (hS : 1 ≤ S ∧ S ≤ 8) (hD : -4096 ≤ DX ∧ DX ≤ 4096 ∧ -4096 ≤ DY ∧ DY ≤ 4096) (x y : Int) (hp : -1024 ≤ x ∧ x ≤ 1024 ∧ -1024 ≤ y ∧ y ≤ 1024) :
    -12288 ≤ (tpt K S DX DY (x, y)).1 ∧ (tpt K S DX DY (x, y)).1 ≤ 12288 ∧ -12288 ≤ (tpt K S DX DY (x, y)).2 ∧ (tpt K S DX DY (x, y)).2 ≤ 12288 := by
  have hm : ∀ a : Int, -1024 ≤ a → a ≤ 1024 → -8192 ≤ a * S ∧ a * S ≤ 8192 := by
    intro a h1 h2
    have : (a * S).natAbs ≤ 1024 * 8 := by rw [Int.natAbs_mul]; exact Nat.mul_le_mul (by omega) (by omega)
    omega
  have m1 := hm x (by omega) (by omega)
  have m2 := hm y (by omega) (by omega)
  rcases (by omega : K = 0 ∨ K = 1 ∨ K = 2 ∨ K = 3 ∨ K = 4 ∨ K = 5 ∨ K = 6 ∨ K = 7) with rfl | rfl | rfl | rfl | rfl | rfl | rfl | rfl <;> simp only [tpt0, tpt1, tpt2, tpt3, tpt4, tpt5, tpt6, tpt7] <;> omega
end PF
