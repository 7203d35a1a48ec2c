import Derived.Test.YtbfanhdofopnnaaGreatPt
set_option linter.unusedSimpArgs false
set_option linter.unusedVariables false
/-! Rectangles, turned, scaled and moved: plain facts. -/
namespace PF
section
variable (S DX DY x y : Int)
theorem tpt0 : tpt 0 S DX DY (x, y) = (x * S + DX, y * S + DY) := by simp [tpt, rotN, show ((0 : Int) % 4).toNat = 0 from rfl, Int.neg_mul]
theorem tpt1 : tpt 1 S DX DY (x, y) = (-(y * S) + DX, x * S + DY) := by simp [tpt, rotN, show ((1 : Int) % 4).toNat = 1 from rfl, Int.neg_mul]
theorem tpt2 : tpt 2 S DX DY (x, y) = (-(x * S) + DX, -(y * S) + DY) := by simp [tpt, rotN, show ((2 : Int) % 4).toNat = 2 from rfl, Int.neg_mul]
theorem tpt3 : tpt 3 S DX DY (x, y) = (y * S + DX, -(x * S) + DY) := by simp [tpt, rotN, show ((3 : Int) % 4).toNat = 3 from rfl, Int.neg_mul]
theorem tpt4 : tpt 4 S DX DY (x, y) = (-(x * S) + DX, y * S + DY) := by simp [tpt, rotN, show ((4 : Int) % 4).toNat = 0 from rfl, Int.neg_mul]
theorem tpt5 : tpt 5 S DX DY (x, y) = (-(y * S) + DX, -(x * S) + DY) := by simp [tpt, rotN, show ((5 : Int) % 4).toNat = 1 from rfl, Int.neg_mul]
theorem tpt6 : tpt 6 S DX DY (x, y) = (x * S + DX, -(y * S) + DY) := by simp [tpt, rotN, show ((6 : Int) % 4).toNat = 2 from rfl, Int.neg_mul]
theorem tpt7 : tpt 7 S DX DY (x, y) = (y * S + DX, x * S + DY) := by simp [tpt, rotN, show ((7 : Int) % 4).toNat = 3 from rfl, Int.neg_mul]
end

/-- the least rectangle around two turned points -/
def rx0 (K S DX DY X0 Y0 X1 Y1 : Int) : Int := min (tpt K S DX DY (X0, Y0)).1 (tpt K S DX DY (X1, Y1)).1
def ry0 (K S DX DY X0 Y0 X1 Y1 : Int) : Int := min (tpt K S DX DY (X0, Y0)).2 (tpt K S DX DY (X1, Y1)).2
def rx1 (K S DX DY X0 Y0 X1 Y1 : Int) : Int := max (tpt K S DX DY (X0, Y0)).1 (tpt K S DX DY (X1, Y1)).1
def ry1 (K S DX DY X0 Y0 X1 Y1 : Int) : Int := max (tpt K S DX DY (X0, Y0)).2 (tpt K S DX DY (X1, Y1)).2
theorem mulS_le {a b S : Int} (hS : 0 < S) : a * S ≤ b * S ↔ a ≤ b := ⟨fun h => Int.le_of_mul_le_mul_right h hS, fun h => Int.mul_le_mul_of_nonneg_right h (Int.le_of_lt hS)⟩
section
variable {K S DX DY X0 Y0 X1 Y1 U0 V0 U1 V1 PX PY : Int}
theorem rect_order (hK : 0 ≤ K ∧ K ≤ 7) (hS : 0 < S) (h1 : X0 < X1) (h2 : Y0 < Y1) : rx0 K S DX DY X0 Y0 X1 Y1 < rx1 K S DX DY X0 Y0 X1 Y1 ∧ ry0 K S DX DY X0 Y0 X1 Y1 < ry1 K S DX DY X0 Y0 X1 Y1 := by
  have a1 := mulS_le (a := X1) (b := X0) hS
  have a2 := mulS_le (a := Y1) (b := Y0) hS
  unfold rx0 ry0 rx1 ry1
  rcases (by omega : K = 0 ∨ K = 1 ∨ K = 2 ∨ K = 3 ∨ K = 4 ∨ K = 5 ∨ K = 6 ∨ K = 7) with rfl | rfl | rfl | rfl | rfl | rfl | rfl | rfl <;> simp only [tpt0, tpt1, tpt2, tpt3, tpt4, tpt5, tpt6, tpt7] <;> omega
end
end PF
