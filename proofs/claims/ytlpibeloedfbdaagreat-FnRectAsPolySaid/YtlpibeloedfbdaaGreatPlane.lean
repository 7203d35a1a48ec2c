
set_option linter.unusedSimpArgs false
set_option linter.unusedVariables false
/-! Points, segments and rectangles with whole coordinates: plain facts. -/
namespace PF

/-- p is on the segment from a to b -/
def rcOn (ax ay bx b_y px py : Int) : Bool :=
  decide ((px - ax) * (b_y - ay) = (py - ay) * (bx - ax) ∧ ((ax ≤ px ∧ px ≤ bx) ∨ (bx ≤ px ∧ px ≤ ax)) ∧ ((ay ≤ py ∧ py ≤ b_y) ∨ (b_y ≤ py ∧ py ≤ ay)))

/-- a ray from p to the right crosses the segment from a to b -/
def rcIn (ax ay bx b_y px py : Int) : Bool :=
  decide ((ay ≤ py ∧ py < b_y ∧ (b_y - ay) * (px - ax) < (py - ay) * (bx - ax)) ∨ (b_y ≤ py ∧ py < ay ∧ (py - ay) * (bx - ax) < (b_y - ay) * (px - ax)))

section
variable {Ax Ay Bx By Px Py : Int}

theorem rcOn_ne (h : (Px - Ax) * (By - Ay) ≠ (Py - Ay) * (Bx - Ax)) : rcOn Ax Ay Bx By Px Py = false := by
  rw [rcOn, decide_eq_false_iff_not]; exact fun hh => h hh.1
theorem rcOn_out (h : (Py < Ay ∧ Py < By) ∨ (Ay < Py ∧ By < Py)) : rcOn Ax Ay Bx By Px Py = false := by
  rw [rcOn, decide_eq_false_iff_not]; omega
theorem rcOn_outx (h : (Px < Ax ∧ Px < Bx) ∨ (Ax < Px ∧ Bx < Px)) : rcOn Ax Ay Bx By Px Py = false := by
  rw [rcOn, decide_eq_false_iff_not]; omega
theorem rcIn_flat (h : Ay = By) : rcIn Ax Ay Bx By Px Py = false := by
  rw [rcIn, decide_eq_false_iff_not]; omega
theorem rcIn_up_t (h0 : Ay ≤ Py) (h1 : Py < By) (h : (By - Ay) * (Px - Ax) ≤ (Py - Ay) * (Bx - Ax)) (hcr : (Px - Ax) * (By - Ay) ≠ (Py - Ay) * (Bx - Ax)) : rcIn Ax Ay Bx By Px Py = true := by
  rw [rcIn, decide_eq_true_iff]
  rw [Int.mul_comm] at hcr
  exact .inl ⟨h0, h1, by omega⟩
theorem rcIn_up_f (h0 : Ay < By) (h : By ≤ Py ∨ Py < Ay ∨ (Py - Ay) * (Bx - Ax) ≤ (By - Ay) * (Px - Ax)) : rcIn Ax Ay Bx By Px Py = false := by
  rw [rcIn, decide_eq_false_iff_not]; omega
theorem rcIn_down_t (h0 : By ≤ Py) (h1 : Py < Ay) (h : (Py - Ay) * (Bx - Ax) ≤ (By - Ay) * (Px - Ax)) (hcr : (Px - Ax) * (By - Ay) ≠ (Py - Ay) * (Bx - Ax)) : rcIn Ax Ay Bx By Px Py = true := by
  rw [rcIn, decide_eq_true_iff]
  rw [Int.mul_comm] at hcr
  exact .inr ⟨h0, h1, by omega⟩
theorem rcIn_down_f (h0 : By < Ay) (h : Ay ≤ Py ∨ Py < By ∨ (By - Ay) * (Px - Ax) ≤ (Py - Ay) * (Bx - Ax)) : rcIn Ax Ay Bx By Px Py = false := by
  rw [rcIn, decide_eq_false_iff_not]; omega

theorem mul_pp {a b : Int} (ha : 0 ≤ a) (hb : 0 ≤ b) : 0 ≤ a * b := Int.mul_nonneg ha hb
theorem mul_pn {a b : Int} (ha : 0 ≤ a) (hb : b ≤ 0) : a * b ≤ 0 := Int.mul_nonpos_of_nonneg_of_nonpos ha hb
theorem mul_np {a b : Int} (ha : a ≤ 0) (hb : 0 ≤ b) : a * b ≤ 0 := Int.mul_nonpos_of_nonpos_of_nonneg ha hb
theorem mul_nn {a b : Int} (ha : a ≤ 0) (hb : b ≤ 0) : 0 ≤ a * b := Int.mul_nonneg_of_nonpos_of_nonpos ha hb
/-- a ≤ b, on the left of c ≥ 0 -/
theorem mul_lp {a b c : Int} (h : a ≤ b) (hc : 0 ≤ c) : a * c ≤ b * c := Int.mul_le_mul_of_nonneg_right h hc
theorem mul_ln {a b c : Int} (h : a ≤ b) (hc : c ≤ 0) : b * c ≤ a * c := Int.mul_le_mul_of_nonpos_right h hc
theorem mul_rp {a b c : Int} (h : a ≤ b) (hc : 0 ≤ c) : c * a ≤ c * b := Int.mul_le_mul_of_nonneg_left h hc
theorem mul_rn {a b c : Int} (h : a ≤ b) (hc : c ≤ 0) : c * b ≤ c * a := Int.mul_le_mul_of_nonpos_left hc h

theorem up_lt_l (h1 : Ay ≤ By) (h2 : Ax ≤ Bx) (hl : Ay ≤ Py) (hx : Px ≤ Ax) : (By - Ay) * (Px - Ax) ≤ (Py - Ay) * (Bx - Ax) :=
  Int.le_trans (mul_pn (by omega) (by omega)) (mul_pp (by omega) (by omega))
theorem up_lt_r (h1 : Ay ≤ By) (h2 : Ax ≤ Bx) (hl : Py ≤ By) (hx : Bx ≤ Px) : (Py - Ay) * (Bx - Ax) ≤ (By - Ay) * (Px - Ax) :=
  Int.le_trans (mul_lp (b := By - Ay) (by omega) (by omega)) (mul_rp (by omega) (by omega))
theorem up_gt_l (h1 : Ay ≤ By) (h2 : Bx ≤ Ax) (hl : Py ≤ By) (hx : Px ≤ Bx) : (By - Ay) * (Px - Ax) ≤ (Py - Ay) * (Bx - Ax) :=
  Int.le_trans (mul_rp (b := Bx - Ax) (by omega) (by omega)) (mul_ln (by omega) (by omega))
theorem up_gt_r (h1 : Ay ≤ By) (h2 : Bx ≤ Ax) (hl : Ay ≤ Py) (hx : Ax ≤ Px) : (Py - Ay) * (Bx - Ax) ≤ (By - Ay) * (Px - Ax) :=
  Int.le_trans (mul_pn (by omega) (by omega)) (mul_pp (by omega) (by omega))
theorem down_lt_l (h1 : By ≤ Ay) (h2 : Ax ≤ Bx) (hl : Py ≤ Ay) (hx : Px ≤ Ax) : (Py - Ay) * (Bx - Ax) ≤ (By - Ay) * (Px - Ax) :=
  Int.le_trans (mul_np (by omega) (by omega)) (mul_nn (by omega) (by omega))
theorem down_lt_r (h1 : By ≤ Ay) (h2 : Ax ≤ Bx) (hl : By ≤ Py) (hx : Bx ≤ Px) : (By - Ay) * (Px - Ax) ≤ (Py - Ay) * (Bx - Ax) :=
  Int.le_trans (mul_rn (a := Bx - Ax) (by omega) (by omega)) (mul_lp (by omega) (by omega))
theorem down_gt_l (h1 : By ≤ Ay) (h2 : Bx ≤ Ax) (hl : By ≤ Py) (hx : Px ≤ Bx) : (Py - Ay) * (Bx - Ax) ≤ (By - Ay) * (Px - Ax) :=
  Int.le_trans (mul_ln (a := By - Ay) (by omega) (by omega)) (mul_rn (by omega) (by omega))
theorem down_gt_r (h1 : By ≤ Ay) (h2 : Bx ≤ Ax) (hl : Py ≤ Ay) (hx : Ax ≤ Px) : (By - Ay) * (Px - Ax) ≤ (Py - Ay) * (Bx - Ax) :=
  Int.le_trans (mul_np (by omega) (by omega)) (mul_nn (by omega) (by omega))
theorem low_up_f (h1 : Ay ≤ By) (hl : Py = Ay) (hx : Ax ≤ Px) : (Py - Ay) * (Bx - Ax) ≤ (By - Ay) * (Px - Ax) := by
  rw [hl, Int.sub_self, Int.zero_mul]; exact mul_pp (by omega) (by omega)
theorem low_up_t (h1 : Ay ≤ By) (hl : Py = Ay) (hx : Px ≤ Ax) : (By - Ay) * (Px - Ax) ≤ (Py - Ay) * (Bx - Ax) := by
  rw [hl, Int.sub_self, Int.zero_mul]; exact mul_pn (by omega) (by omega)
theorem low_down_f (h1 : By ≤ Ay) (hl : Py = By) (hx : Bx ≤ Px) : (By - Ay) * (Px - Ax) ≤ (Py - Ay) * (Bx - Ax) := by
  rw [hl]; exact mul_rn (by omega) (by omega)
theorem low_down_t (h1 : By ≤ Ay) (hl : Py = By) (hx : Px ≤ Bx) : (Py - Ay) * (Bx - Ax) ≤ (By - Ay) * (Px - Ax) := by
  rw [hl]; exact mul_rn (by omega) (by omega)
theorem down_slope : (Ay - By) * (Px - Bx) - (Py - By) * (Ax - Bx) = (Py - Ay) * (Bx - Ax) - (By - Ay) * (Px - Ax) := by
  have e1 : (Ay - By) * (Px - Bx) = Ay * Px - Ay * Bx - (By * Px - By * Bx) := by rw [Int.sub_mul, Int.mul_sub, Int.mul_sub]
  have e2 : (Py - By) * (Ax - Bx) = Py * Ax - Py * Bx - (By * Ax - By * Bx) := by rw [Int.sub_mul, Int.mul_sub, Int.mul_sub]
  have e3 : (Py - Ay) * (Bx - Ax) = Py * Bx - Py * Ax - (Ay * Bx - Ay * Ax) := by rw [Int.sub_mul, Int.mul_sub, Int.mul_sub]
  have e4 : (By - Ay) * (Px - Ax) = By * Px - By * Ax - (Ay * Px - Ay * Ax) := by rw [Int.sub_mul, Int.mul_sub, Int.mul_sub]
  omega

theorem on_x {u v s t : Int} (ht : 0 < t) (h0 : 0 ≤ s) (h1 : s ≤ t) (he : u * t = s * v) : (0 ≤ u ∧ u ≤ v) ∨ (v ≤ u ∧ u ≤ 0) := by
  rcases Int.lt_or_le v 0 with hv | hv
  · right
    constructor
    · rcases Int.lt_or_le u v with hu | hu
      · exfalso
        have a1 : u * t < v * t := Int.mul_lt_mul_of_pos_right hu ht
        have a2 : v * t ≤ v * s := mul_rn h1 (by omega)
        rw [Int.mul_comm v s] at a2
        omega
      · exact hu
    · rcases Int.lt_or_le 0 u with hu | hu
      · exfalso
        have a1 : 0 < u * t := Int.mul_pos hu ht
        have a2 : s * v ≤ 0 := mul_pn h0 (by omega)
        omega
      · exact hu
  · left
    constructor
    · rcases Int.lt_or_le u 0 with hu | hu
      · exfalso
        have a1 : u * t < 0 := Int.mul_neg_of_neg_of_pos hu ht
        have a2 : 0 ≤ s * v := mul_pp h0 hv
        omega
      · exact hu
    · rcases Int.lt_or_le v u with hu | hu
      · exfalso
        have a1 : v * t < u * t := Int.mul_lt_mul_of_pos_right hu ht
        have a2 : v * s ≤ v * t := mul_rp h1 hv
        rw [Int.mul_comm v s] at a2
        omega
      · exact hu

theorem rcOn_up (h1 : Ay < By) (hl : Ay ≤ Py) (hh : Py ≤ By) (he : (Px - Ax) * (By - Ay) = (Py - Ay) * (Bx - Ax)) : rcOn Ax Ay Bx By Px Py = true := by
  rw [rcOn, decide_eq_true_iff]
  have := on_x (u := Px - Ax) (v := Bx - Ax) (s := Py - Ay) (t := By - Ay) (by omega) (by omega) (by omega) he
  exact ⟨he, by omega, by omega⟩
theorem rcOn_down (h1 : By < Ay) (hl : By ≤ Py) (hh : Py ≤ Ay) (he : (Px - Ax) * (By - Ay) = (Py - Ay) * (Bx - Ax)) : rcOn Ax Ay Bx By Px Py = true := by
  rw [rcOn, decide_eq_true_iff]
  have e1 : (Px - Ax) * (Ay - By) = (Ay - Py) * (Bx - Ax) := by
    rw [show Ay - By = -(By - Ay) from by omega, show Ay - Py = -(Py - Ay) from by omega, Int.mul_neg, Int.neg_mul, he]
  have := on_x (u := Px - Ax) (v := Bx - Ax) (s := Ay - Py) (t := Ay - By) (by omega) (by omega) (by omega) e1
  exact ⟨he, by omega, by omega⟩
theorem rcOn_flat (h1 : Ay = By) (h2 : Py = By) (h : (Ax ≤ Px ∧ Px ≤ Bx) ∨ (Bx ≤ Px ∧ Px ≤ Ax)) : rcOn Ax Ay Bx By Px Py = true := by
  rw [rcOn, decide_eq_true_iff]
  refine ⟨?_, h, by omega⟩
  rw [show By - Ay = 0 from by omega, show Py - Ay = 0 from by omega, Int.mul_zero, Int.zero_mul]
theorem rcIn_cross_up (h : (Px - Ax) * (By - Ay) = (Py - Ay) * (Bx - Ax)) : rcIn Ax Ay Bx By Px Py = false := by
  rw [rcIn, decide_eq_false_iff_not]
  rw [Int.mul_comm] at h
  omega
end
end PF
