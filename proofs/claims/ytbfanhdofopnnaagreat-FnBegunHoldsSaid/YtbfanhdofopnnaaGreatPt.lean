import Derived.Test.YtbfanhdofopnnaaGreatPlane
import Derived.Test.YtbfanhdofopnnaaGreatQV
set_option linter.unusedSimpArgs false
set_option linter.unusedVariables false
/-! Turned, scaled and moved: plain facts. -/
namespace PF
section
variable {Ax Ay Bx By Px Py : Int}
theorem cross_swap : (Px - Bx) * (Ay - By) - (Py - By) * (Ax - Bx) = (Py - Ay) * (Bx - Ax) - (Px - Ax) * (By - Ay) := by
  have := down_slope (Ax := Ax) (Ay := Ay) (Bx := Bx) (By := By) (Px := Px) (Py := Py)
  rw [Int.mul_comm (Px - Bx), Int.mul_comm (Px - Ax)]; exact this
theorem rcOn_swap : rcOn Bx By Ax Ay Px Py = rcOn Ax Ay Bx By Px Py := by
  have h := cross_swap (Ax := Ax) (Ay := Ay) (Bx := Bx) (By := By) (Px := Px) (Py := Py)
  unfold rcOn
  apply decide_eq_decide.2
  constructor <;> (rintro ⟨h1, h2, h3⟩; exact ⟨by omega, by omega, by omega⟩)
theorem rcIn_swap : rcIn Bx By Ax Ay Px Py = rcIn Ax Ay Bx By Px Py := by
  have h := down_slope (Ax := Ax) (Ay := Ay) (Bx := Bx) (By := By) (Px := Px) (Py := Py)
  unfold rcIn
  apply decide_eq_decide.2
  constructor <;> (rintro (⟨h1, h2, h3⟩ | ⟨h1, h2, h3⟩); exact .inr ⟨by omega, by omega, by omega⟩; exact .inl ⟨by omega, by omega, by omega⟩)
theorem rcOn_neg : rcOn (-Ax) Ay (-Bx) By (-Px) Py = rcOn Ax Ay Bx By Px Py := by
  unfold rcOn
  apply decide_eq_decide.2
  have e1 : (-Px - -Ax) * (By - Ay) = -((Px - Ax) * (By - Ay)) := by rw [← Int.neg_mul]; congr 1; omega
  have e2 : (Py - Ay) * (-Bx - -Ax) = -((Py - Ay) * (Bx - Ax)) := by rw [← Int.mul_neg]; congr 1; omega
  rw [e1, e2]
  constructor <;> (rintro ⟨h1, h2, h3⟩; exact ⟨by omega, by omega, by omega⟩)
theorem rcOn_rot : rcOn (-Ay) Ax (-By) Bx (-Py) Px = rcOn Ax Ay Bx By Px Py := by
  unfold rcOn
  apply decide_eq_decide.2
  have e1 : (-Py - -Ay) * (Bx - Ax) = -((Py - Ay) * (Bx - Ax)) := by rw [← Int.neg_mul]; congr 1; omega
  have e2 : (Px - Ax) * (-By - -Ay) = -((Px - Ax) * (By - Ay)) := by rw [← Int.mul_neg]; congr 1; omega
  rw [e1, e2]
  constructor <;> (rintro ⟨h1, h2, h3⟩; exact ⟨by omega, by omega, by omega⟩)
theorem sm_sub (a b s d : Int) : (a * s + d) - (b * s + d) = (a - b) * s := by rw [Int.sub_mul]; omega
theorem sm_le {a b s : Int} (d : Int) (hs : 0 < s) : a * s + d ≤ b * s + d ↔ a ≤ b := by
  constructor
  · intro h
    exact Int.le_of_mul_le_mul_right (by omega) hs
  · intro h
    have := Int.mul_le_mul_of_nonneg_right h (Int.le_of_lt hs)
    omega
theorem sm_lt {a b s : Int} (d : Int) (hs : 0 < s) : a * s + d < b * s + d ↔ a < b := by
  have := sm_le (a := b) (b := a) d hs
  omega
theorem sm_mul (a b s : Int) : (a * s) * (b * s) = (a * b) * (s * s) := by
  rw [Int.mul_assoc, Int.mul_assoc]; congr 1; rw [← Int.mul_assoc, ← Int.mul_assoc, Int.mul_comm s b]
theorem rcOn_sm (s dx dy : Int) (hs : 0 < s) : rcOn (Ax * s + dx) (Ay * s + dy) (Bx * s + dx) (By * s + dy) (Px * s + dx) (Py * s + dy) = rcOn Ax Ay Bx By Px Py := by
  have hss : 0 < s * s := Int.mul_pos hs hs
  unfold rcOn
  apply decide_eq_decide.2
  simp only [sm_sub, sm_le _ hs]
  rw [sm_mul (Px - Ax), sm_mul (Py - Ay)]
  constructor
  · rintro ⟨h1, h2⟩; exact ⟨Int.eq_of_mul_eq_mul_right (by omega) h1, h2⟩
  · rintro ⟨h1, h2⟩; exact ⟨by rw [h1], h2⟩
theorem rcIn_sm (s dx dy : Int) (hs : 0 < s) : rcIn (Ax * s + dx) (Ay * s + dy) (Bx * s + dx) (By * s + dy) (Px * s + dx) (Py * s + dy) = rcIn Ax Ay Bx By Px Py := by
  have hss : 0 < s * s := Int.mul_pos hs hs
  have hl : ∀ a b : Int, a * (s * s) < b * (s * s) ↔ a < b := fun a b => ⟨fun h => Int.lt_of_mul_lt_mul_right h (Int.le_of_lt hss), fun h => Int.mul_lt_mul_of_pos_right h hss⟩
  unfold rcIn
  apply decide_eq_decide.2
  simp only [sm_sub, sm_le _ hs, sm_lt _ hs]
  rw [sm_mul (By - Ay), sm_mul (Py - Ay), hl, hl]
end
end PF
