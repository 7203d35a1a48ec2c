import Derived.Test.YtbeoijpdacpaaaaGreatQW
import Derived.Test.YtbeoijpdacpaaaaGreatQP
set_option linter.unusedSimpArgs false
set_option linter.unusedVariables false
/-! The plain law of FnRectSides: a rectangle and a line meet just if a point of the line is within, or a segment meets a side. -/
namespace PF
section
variable {x1 y1 x2 y2 a b c d : Int}
/-- which side of the line through the segment a point is on -/
theorem side_mix {u v : Int} : side x1 y1 x2 y2 u v = (v - y1) * (x2 - u) + (y2 - v) * (x1 - u) := by
  unfold side; grind
theorem pos_mul {m n : Int} (hm : 0 < m) (hn : 0 < n) : 0 < m * n := Int.mul_pos hm hn
theorem nonneg_mul {m n : Int} (hm : 0 ≤ m) (hn : 0 ≤ n) : 0 ≤ m * n := Int.mul_nonneg hm hn
theorem neg_mul {m n : Int} (hm : 0 < m) (hn : n < 0) : m * n < 0 := Int.mul_neg_of_pos_of_neg hm hn
theorem nonpos_mul {m n : Int} (hm : 0 ≤ m) (hn : n ≤ 0) : m * n ≤ 0 := Int.mul_nonpos_of_nonneg_of_nonpos hm hn
theorem nn_mul {m n : Int} (hm : m ≤ 0) (hn : 0 ≤ n) : m * n ≤ 0 := Int.mul_nonpos_of_nonpos_of_nonneg hm hn
theorem npnp_mul {m n : Int} (hm : m ≤ 0) (hn : n ≤ 0) : 0 ≤ m * n := Int.mul_nonneg_of_nonpos_of_nonpos hm hn
/-- a segment that goes up over the lower side, both its ends without, leaves by another side -/
theorem up_core (hac : a < c) (hbd : b < d) (hA : ¬ (a ≤ x1 ∧ x1 ≤ c ∧ b ≤ y1 ∧ y1 ≤ d)) (hB : ¬ (a ≤ x2 ∧ x2 ≤ c ∧ b ≤ y2 ∧ y2 ≤ d))
    (hy : y1 < y2) (h1 : y1 ≤ b) (h2 : b ≤ y2) (hf : apartB (side x1 y1 x2 y2 a b) (side x1 y1 x2 y2 c b)) :
    (apartB (y1 - d) (y2 - d) ∧ apartB (side x1 y1 x2 y2 a d) (side x1 y1 x2 y2 c d)) ∨
    (apartB (x1 - a) (x2 - a) ∧ apartB (side x1 y1 x2 y2 a b) (side x1 y1 x2 y2 a d)) ∨
    (apartB (x1 - c) (x2 - c) ∧ apartB (side x1 y1 x2 y2 c b) (side x1 y1 x2 y2 c d)) := by
  have eab : side x1 y1 x2 y2 a b = (b - y1) * (x2 - a) + (y2 - b) * (x1 - a) := side_mix
  have ecb : side x1 y1 x2 y2 c b = (b - y1) * (x2 - c) + (y2 - b) * (x1 - c) := side_mix
  have ead : side x1 y1 x2 y2 a d = (d - y1) * (x2 - a) + (y2 - d) * (x1 - a) := side_mix
  have ecd : side x1 y1 x2 y2 c d = (d - y1) * (x2 - c) + (y2 - d) * (x1 - c) := side_mix
  have edif : side x1 y1 x2 y2 a b - side x1 y1 x2 y2 c b = (y2 - y1) * (c - a) := by unfold side; grind
  have p0 := pos_mul (show 0 < y2 - y1 by omega) (show 0 < c - a by omega)
  generalize side x1 y1 x2 y2 a b = fab at *
  generalize side x1 y1 x2 y2 c b = fcb at *
  generalize side x1 y1 x2 y2 a d = fad at *
  generalize side x1 y1 x2 y2 c d = fcd at *
  generalize (y2 - y1) * (c - a) = g0 at *
  have hab : 0 ≤ fab ∧ fcb ≤ 0 := by unfold apartB at hf; omega
  clear hf edif p0
  -- the ends lie strictly below and above the lower side
  have b1 : y1 < b := by
    rcases Int.lt_or_eq_of_le h1 with h | h
    · exact h
    · exfalso
      subst h
      rw [Int.sub_self, Int.zero_mul, Int.zero_add] at eab ecb
      have q1 : a ≤ x1 := by
        rcases Int.lt_or_le x1 a with g | g
        · have := neg_mul (show 0 < y2 - y1 by omega) (show x1 - a < 0 by omega); omega
        · exact g
      have q2 : x1 ≤ c := by
        rcases Int.lt_or_le c x1 with g | g
        · have := pos_mul (show 0 < y2 - y1 by omega) (show 0 < x1 - c by omega); omega
        · exact g
      exact hA ⟨q1, q2, Int.le_refl _, by omega⟩
  have b2 : b < y2 := by
    rcases Int.lt_or_eq_of_le h2 with h | h
    · exact h
    · exfalso
      subst h
      rw [Int.sub_self, Int.zero_mul, Int.add_zero] at eab ecb
      have q1 : a ≤ x2 := by
        rcases Int.lt_or_le x2 a with g | g
        · have := neg_mul (show 0 < b - y1 by omega) (show x2 - a < 0 by omega); omega
        · exact g
      have q2 : x2 ≤ c := by
        rcases Int.lt_or_le c x2 with g | g
        · have := pos_mul (show 0 < b - y1 by omega) (show 0 < x2 - c by omega); omega
        · exact g
      exact hB ⟨q1, q2, Int.le_refl _, by omega⟩
  have w1 : 0 < b - y1 := by omega
  have w2 : 0 < y2 - b := by omega
  -- not both ends left of the left side, nor right of the right one
  have la : ¬ (x1 < a ∧ x2 < a) := by
    rintro ⟨g1, g2⟩
    have := neg_mul w1 (show x2 - a < 0 by omega)
    have := neg_mul w2 (show x1 - a < 0 by omega)
    omega
  have rc : ¬ (c < x1 ∧ c < x2) := by
    rintro ⟨g1, g2⟩
    have := pos_mul w1 (show 0 < x2 - c by omega)
    have := pos_mul w2 (show 0 < x1 - c by omega)
    omega
  have w3 : 0 < d - y1 := by omega
  unfold apartB
  rcases Int.lt_or_le y2 d with hd | hd
  · -- it ends between the lower and the upper side
    rcases Int.lt_or_le x2 a with g | g
    · have k1 := neg_mul w3 (show x2 - a < 0 by omega)
      have k2 := nn_mul (show y2 - d ≤ 0 by omega) (show 0 ≤ x1 - a by omega)
      right; left; omega
    · have g' : c < x2 := by omega
      have k1 := pos_mul w3 (show 0 < x2 - c by omega)
      have k2 := npnp_mul (show y2 - d ≤ 0 by omega) (show x1 - c ≤ 0 by omega)
      right; right; omega
  · have w4 : 0 ≤ y2 - d := by omega
    rcases Int.lt_or_le fad 0 with g | g
    · have q : ¬ (a < x1 ∧ a < x2) := by
        rintro ⟨g1, g2⟩
        have := pos_mul w3 (show 0 < x2 - a by omega)
        have := nonneg_mul w4 (show 0 ≤ x1 - a by omega)
        omega
      right; left; omega
    · rcases Int.lt_or_le 0 fcd with g' | g'
      · have q : ¬ (x1 < c ∧ x2 < c) := by
          rintro ⟨g1, g2⟩
          have := neg_mul w3 (show x2 - c < 0 by omega)
          have := nonpos_mul w4 (show x1 - c ≤ 0 by omega)
          omega
        right; right; omega
      · left; omega
/-- the four sides, in plain words: bottom, right, top, left -/
def mB (x1 y1 x2 y2 a b c _d : Int) : Prop := apartB (y1 - b) (y2 - b) ∧ apartB (side x1 y1 x2 y2 a b) (side x1 y1 x2 y2 c b)
def mR (x1 y1 x2 y2 _a b c d : Int) : Prop := apartB (x1 - c) (x2 - c) ∧ apartB (side x1 y1 x2 y2 c b) (side x1 y1 x2 y2 c d)
def mT (x1 y1 x2 y2 a _b c d : Int) : Prop := apartB (y1 - d) (y2 - d) ∧ apartB (side x1 y1 x2 y2 a d) (side x1 y1 x2 y2 c d)
def mL (x1 y1 x2 y2 a b _c d : Int) : Prop := apartB (x1 - a) (x2 - a) ∧ apartB (side x1 y1 x2 y2 a b) (side x1 y1 x2 y2 a d)
theorem side_sw {u v : Int} : side x2 y2 x1 y1 u v = -side x1 y1 x2 y2 u v := by unfold side; grind
theorem side_ry {u v : Int} : side x1 (-y1) x2 (-y2) u (-v) = -side x1 y1 x2 y2 u v := by unfold side; grind
theorem side_tr {u v : Int} : side y1 x1 y2 x2 v u = -side x1 y1 x2 y2 u v := by unfold side; grind
theorem apN {m n : Int} : apartB (-m) (-n) ↔ apartB m n := by unfold apartB; omega
theorem apSw {u v s t : Int} : apartB (side x2 y2 x1 y1 u v) (side x2 y2 x1 y1 s t) ↔ apartB (side x1 y1 x2 y2 u v) (side x1 y1 x2 y2 s t) := by
  have e1 : side x2 y2 x1 y1 u v = -side x1 y1 x2 y2 u v := side_sw
  have e2 : side x2 y2 x1 y1 s t = -side x1 y1 x2 y2 s t := side_sw
  rw [e1, e2, apN]
theorem apTr {u v s t : Int} : apartB (side y1 x1 y2 x2 v u) (side y1 x1 y2 x2 t s) ↔ apartB (side x1 y1 x2 y2 u v) (side x1 y1 x2 y2 s t) := by
  have e1 : side y1 x1 y2 x2 v u = -side x1 y1 x2 y2 u v := side_tr
  have e2 : side y1 x1 y2 x2 t s = -side x1 y1 x2 y2 s t := side_tr
  rw [e1, e2, apN]
theorem apC {m n : Int} : apartB m n ↔ apartB n m := by unfold apartB; omega
theorem apS {m n k : Int} : apartB (-m - -k) (-n - -k) ↔ apartB (m - k) (n - k) := by unfold apartB; omega
def Out (x y a b c d : Int) : Prop := ¬ (a ≤ x ∧ x ≤ c ∧ b ≤ y ∧ y ≤ d)
/-- two of the four -/
theorem bot_two (hac : a < c) (hbd : b < d) (hA : Out x1 y1 a b c d) (hB : Out x2 y2 a b c d) (hn : ¬ (y1 = b ∧ y2 = b)) (h : mB x1 y1 x2 y2 a b c d) : mT x1 y1 x2 y2 a b c d ∨ mL x1 y1 x2 y2 a b c d ∨ mR x1 y1 x2 y2 a b c d := by
  obtain ⟨h1, h2⟩ := h
  unfold Out at hA hB
  unfold mT mL mR
  rcases Int.lt_trichotomy y1 y2 with hy | hy | hy
  · exact up_core hac hbd hA hB hy (by unfold apartB at h1; omega) (by unfold apartB at h1; omega) h2
  · exfalso; unfold apartB at h1; omega
  · have h2' : apartB (side x2 y2 x1 y1 a b) (side x2 y2 x1 y1 c b) := apSw.2 h2
    have r := up_core hac hbd hB hA hy (by unfold apartB at h1; omega) (by unfold apartB at h1; omega) h2'
    rcases r with ⟨r1, r2⟩ | ⟨r1, r2⟩ | ⟨r1, r2⟩
    · exact .inl ⟨apC.1 r1, apSw.1 r2⟩
    · exact .inr (.inl ⟨apC.1 r1, apSw.1 r2⟩)
    · exact .inr (.inr ⟨apC.1 r1, apSw.1 r2⟩)
theorem top_two (hac : a < c) (hbd : b < d) (hA : Out x1 y1 a b c d) (hB : Out x2 y2 a b c d) (hn : ¬ (y1 = d ∧ y2 = d)) (h : mT x1 y1 x2 y2 a b c d) : mB x1 y1 x2 y2 a b c d ∨ mL x1 y1 x2 y2 a b c d ∨ mR x1 y1 x2 y2 a b c d := by
  have r := bot_two (x1 := x1) (y1 := -y1) (x2 := x2) (y2 := -y2) (a := a) (b := -d) (c := c) (d := -b) hac (by omega) (by unfold Out at *; omega) (by unfold Out at *; omega) (by omega) (by
    unfold mB
    unfold mT at h
    rw [side_ry, side_ry, apN, apS]
    exact h)
  unfold mT mL mR at r
  simp only [side_ry, apN, apS] at r
  unfold mB mL mR
  rcases r with ⟨r1, r2⟩ | ⟨r1, r2⟩ | ⟨r1, r2⟩
  · exact .inl ⟨r1, r2⟩
  · exact .inr (.inl ⟨r1, apC.1 r2⟩)
  · exact .inr (.inr ⟨r1, apC.1 r2⟩)
theorem left_two (hac : a < c) (hbd : b < d) (hA : Out x1 y1 a b c d) (hB : Out x2 y2 a b c d) (hn : ¬ (x1 = a ∧ x2 = a)) (h : mL x1 y1 x2 y2 a b c d) : mR x1 y1 x2 y2 a b c d ∨ mB x1 y1 x2 y2 a b c d ∨ mT x1 y1 x2 y2 a b c d := by
  have r := bot_two (x1 := y1) (y1 := x1) (x2 := y2) (y2 := x2) (a := b) (b := a) (c := d) (d := c) hbd hac (by unfold Out at *; omega) (by unfold Out at *; omega) hn (by
    unfold mB
    unfold mL at h
    exact ⟨h.1, apTr.2 h.2⟩)
  unfold mT mL mR at r
  unfold mR mB mT
  rcases r with ⟨r1, r2⟩ | ⟨r1, r2⟩ | ⟨r1, r2⟩
  · exact .inl ⟨r1, apTr.1 r2⟩
  · exact .inr (.inl ⟨r1, apTr.1 r2⟩)
  · exact .inr (.inr ⟨r1, apTr.1 r2⟩)
theorem right_two (hac : a < c) (hbd : b < d) (hA : Out x1 y1 a b c d) (hB : Out x2 y2 a b c d) (hn : ¬ (x1 = c ∧ x2 = c)) (h : mR x1 y1 x2 y2 a b c d) : mL x1 y1 x2 y2 a b c d ∨ mB x1 y1 x2 y2 a b c d ∨ mT x1 y1 x2 y2 a b c d := by
  have r := top_two (x1 := y1) (y1 := x1) (x2 := y2) (y2 := x2) (a := b) (b := a) (c := d) (d := c) hbd hac (by unfold Out at *; omega) (by unfold Out at *; omega) hn (by
    unfold mT
    unfold mR at h
    exact ⟨h.1, apTr.2 h.2⟩)
  unfold mB mL mR at r
  unfold mL mB mT
  rcases r with ⟨r1, r2⟩ | ⟨r1, r2⟩ | ⟨r1, r2⟩
  · exact .inl ⟨r1, apTr.1 r2⟩
  · exact .inr (.inl ⟨r1, apTr.1 r2⟩)
  · exact .inr (.inr ⟨r1, apTr.1 r2⟩)
/-! the sides as `meets` has them -/
theorem apM {k m n : Int} (hk : 0 < k) : apartB (k * m) (k * n) ↔ apartB m n := by
  unfold apartB
  have e1 : ∀ z, (k * z ≤ 0 ↔ z ≤ 0) := fun z => ⟨fun h => by
    rcases Int.lt_or_le 0 z with g | g
    · have := pos_mul hk g; omega
    · exact g, fun h => nonpos_mul (by omega) h⟩
  have e2 : ∀ z, (0 ≤ k * z ↔ 0 ≤ z) := fun z => ⟨fun h => by
    rcases Int.lt_or_le z 0 with g | g
    · have := neg_mul hk g; omega
    · exact g, fun h => nonneg_mul (by omega) h⟩
  rw [e1, e1, e2, e2]
theorem meets_bot (hac : a < c) : meets x1 y1 x2 y2 a b c b = true ↔ mB x1 y1 x2 y2 a b c d := by
  unfold meets mB
  rw [decide_eq_true_iff, show side a b c b x1 y1 = (c - a) * (y1 - b) from by unfold side; grind, show side a b c b x2 y2 = (c - a) * (y2 - b) from by unfold side; grind, apM (by omega)]
  exact And.comm
theorem meets_right (hbd : b < d) : meets x1 y1 x2 y2 c b c d = true ↔ mR x1 y1 x2 y2 a b c d := by
  unfold meets mR
  rw [decide_eq_true_iff, show side c b c d x1 y1 = -((d - b) * (x1 - c)) from by unfold side; grind, show side c b c d x2 y2 = -((d - b) * (x2 - c)) from by unfold side; grind, apN, apM (by omega)]
  exact And.comm
theorem meets_top (hac : a < c) : meets x1 y1 x2 y2 c d a d = true ↔ mT x1 y1 x2 y2 a b c d := by
  unfold meets mT
  rw [decide_eq_true_iff, show side c d a d x1 y1 = -((c - a) * (y1 - d)) from by unfold side; grind, show side c d a d x2 y2 = -((c - a) * (y2 - d)) from by unfold side; grind, apN, apM (by omega), apC (m := side x1 y1 x2 y2 c d)]
  exact And.comm
theorem meets_left (hbd : b < d) : meets x1 y1 x2 y2 a d a b = true ↔ mL x1 y1 x2 y2 a b c d := by
  unfold meets mL
  rw [decide_eq_true_iff, show side a d a b x1 y1 = (d - b) * (x1 - a) from by unfold side; grind, show side a d a b x2 y2 = (d - b) * (x2 - a) from by unfold side; grind, apM (by omega), apC (m := side x1 y1 x2 y2 a d)]
  exact And.comm
end
end PF
set_option linter.unusedSimpArgs false
set_option linter.unusedVariables false
/-! The plain law of FnRectSides, joined. -/
namespace Go.Proofs.YtbeoijpdacpaaaaGreat
open Go.RowKit PF JR
/-- a rectangle's corners, as FnRectSides has them -/
def crn (a b c d : Int) : List (Int × Int) := [(a, b), (c, b), (c, d), (a, d)]
/-- segment j of m meets side k -/
def qs (a b c d : Int) (m : List (Int × Int)) (j k : Nat) : Bool := meets (at' m j).1 (at' m j).2 (nxp m j).1 (nxp m j).2 (at' (crn a b c d) k).1 (at' (crn a b c d) k).2 (nxp (crn a b c d) k).1 (nxp (crn a b c d) k).2
def os (a b c d : Int) (m : List (Int × Int)) (j k : Nat) : Bool := ovl (at' m j).1 (at' m j).2 (nxp m j).1 (nxp m j).2 (at' (crn a b c d) k).1 (at' (crn a b c d) k).2 (nxp (crn a b c d) k).1 (nxp (crn a b c d) k).2
/-- point j of m is within, or its segment meets a side -/
def rhit (a b c d : Int) (m : List (Int × Int)) (j : Nat) : Bool := inB (a, b, c, d) (at' m j) || (decide (j + 1 < m.length) && anyN (qs a b c d m j) 4)
section
variable {a b c d : Int}
theorem rect_has (h1 : a < c) (h2 : b < d) (p : Int × Int) : ringHas (rl a b c d) p true = inB (a, b, c, d) p := by
  obtain ⟨x, y⟩ := p
  have e : ringHas (rl a b c d) (x, y) true = _ := qd_has (a, b) (c, b) (c, d) (a, d) (x, y) true
  rw [e, show ppB true (qd (a, b) (c, b) (c, d) (a, d)) = (a, b, c, d) from rl_box (Int.le_of_lt h1) (Int.le_of_lt h2)]
  cases g : inB (a, b, c, d) (x, y) with
  | false => rfl
  | true =>
    have g := of_decide_eq_true g
    simp only at g
    simp only [Bool.true_and, Bool.and_true, Bool.false_or]
    by_cases e1 : y = b
    · have : rcOn a b c b x y = true := rcOn_flat rfl e1 (.inl ⟨g.1, g.2.1⟩)
      rw [this]; simp
    by_cases e2 : y = d
    · have : rcOn c d a d x y = true := rcOn_flat rfl e2 (.inr ⟨g.1, g.2.1⟩)
      rw [this]; simp
    by_cases e3 : x = c
    · have : rcOn c b c d x y = true := rcOn_up h2 g.2.2.1 g.2.2.2 (by rw [e3]; simp)
      rw [this]; simp
    by_cases e4 : x = a
    · have : rcOn a d a b x y = true := rcOn_down h2 g.2.2.1 g.2.2.2 (by rw [e4]; simp)
      rw [this]; simp
    have z0 := neg_mul (m := d - b) (n := x - c) (by omega) (by omega)
    have z1 := pos_mul (m := d - b) (n := x - a) (by omega) (by omega)
    have f0 : rcIn a b c b x y = false := rcIn_flat rfl
    have f2 : rcIn c d a d x y = false := rcIn_flat rfl
    have f1 : rcIn c b c d x y = true := by
      unfold rcIn
      rw [decide_eq_true_iff]
      left
      rw [Int.sub_self, Int.mul_zero]
      exact ⟨g.2.2.1, by omega, z0⟩
    have f3 : rcIn a d a b x y = false := by
      unfold rcIn
      rw [decide_eq_false_iff_not]
      rw [Int.sub_self, Int.mul_zero, show (b - d) * (x - a) = -((d - b) * (x - a)) from by grind]
      omega
    rw [f0, f1, f2, f3]
    cases (((rcOn a b c b x y || rcOn c b c d x y) || rcOn c d a d x y) || rcOn a d a b x y) <;> rfl
theorem sx_meets {Ax Ay Bx By Cx Cy Dx Dy : Int} (ho : ovl Ax Ay Bx By Cx Cy Dx Dy = false) : sx Ax Ay Bx By Cx Cy Dx Dy = meets Ax Ay Bx By Cx Cy Dx Dy := by
  have h2 := (ovl_false ho).1
  unfold sx
  split
  · rename_i h; exact (meets_far_y ho h).symm
  split
  · rename_i h; exact (meets_far_x ho h).symm
  split
  · rename_i h; exact (meets_end h).symm
  split
  · rename_i h
    have h3 : side Ax Ay Bx By Dx Dy ≠ 0 := by
      rcases h2 with g | g
      · exact absurd h g
      · exact g
    rw [on_iff h h3, on_not h3, Bool.or_false]
  · rfl
theorem cnt_two {f0 f1 f2 f3 : Bool} (h : ((f0 && (f1 || f2 || f3)) || (f1 && (f2 || f3)) || (f2 && f3)) = true) : decide (2 ≤ (((0 + if f0 = true then 1 else 0) + if f1 = true then 1 else 0) + if f2 = true then 1 else 0) + if f3 = true then 1 else 0) = true := by
  cases f0 <;> cases f1 <;> cases f2 <;> cases f3 <;> first | rfl | cases h
/-- a segment that lies along no side -/
theorem risP_rl (h1 : a < c) (h2 : b < d) (A B : Int × Int) (o0 : ovl A.1 A.2 B.1 B.2 a b c b = false) (o1 : ovl A.1 A.2 B.1 B.2 c b c d = false) (o2 : ovl A.1 A.2 B.1 B.2 c d a d = false) (o3 : ovl A.1 A.2 B.1 B.2 a d a b = false) :
    risP (rl a b c d) A B = (inB (a, b, c, d) A || inB (a, b, c, d) B || (((meets A.1 A.2 B.1 B.2 a b c b || meets A.1 A.2 B.1 B.2 c b c d) || meets A.1 A.2 B.1 B.2 c d a d) || meets A.1 A.2 B.1 B.2 a d a b)) := by
  have e : decide (2 ≤ cntN (fun k => sxp A B (at' (rl a b c d) k) (nxp (rl a b c d) k)) (nSeg true (rl a b c d))) = _ := congrArg (fun n => decide (2 ≤ n)) (qd_cnt (a, b) (c, b) (c, d) (a, d) (sxp A B))
  unfold risP
  rw [e, rect_has h1 h2, rect_has h1 h2, rl_box (Int.le_of_lt h1) (Int.le_of_lt h2)]
  have s0 : sxp A B (a, b) (c, b) = meets A.1 A.2 B.1 B.2 a b c b := sx_meets o0
  have s1 : sxp A B (c, b) (c, d) = meets A.1 A.2 B.1 B.2 c b c d := sx_meets o1
  have s2 : sxp A B (c, d) (a, d) = meets A.1 A.2 B.1 B.2 c d a d := sx_meets o2
  have s3 : sxp A B (a, d) (a, b) = meets A.1 A.2 B.1 B.2 a d a b := sx_meets o3
  rw [s0, s1, s2, s3]
  have i0 := meets_bot (x1 := A.1) (y1 := A.2) (x2 := B.1) (y2 := B.2) (a := a) (b := b) (c := c) (d := d) h1
  have i1 := meets_right (x1 := A.1) (y1 := A.2) (x2 := B.1) (y2 := B.2) (a := a) (b := b) (c := c) (d := d) h2
  have i2 := meets_top (x1 := A.1) (y1 := A.2) (x2 := B.1) (y2 := B.2) (a := a) (b := b) (c := c) (d := d) h1
  have i3 := meets_left (x1 := A.1) (y1 := A.2) (x2 := B.1) (y2 := B.2) (a := a) (b := b) (c := c) (d := d) h2
  have n0 : ¬ (A.2 = b ∧ B.2 = b) := fun g => by
    rcases (ovl_false o0).2 with h | h <;> apply h <;> unfold side <;> first | (rw [g.1]; grind) | (rw [g.2]; grind)
  have n1 : ¬ (A.1 = c ∧ B.1 = c) := fun g => by
    rcases (ovl_false o1).2 with h | h <;> apply h <;> unfold side <;> first | (rw [g.1]; grind) | (rw [g.2]; grind)
  have n2 : ¬ (A.2 = d ∧ B.2 = d) := fun g => by
    rcases (ovl_false o2).2 with h | h <;> apply h <;> unfold side <;> first | (rw [g.1]; grind) | (rw [g.2]; grind)
  have n3 : ¬ (A.1 = a ∧ B.1 = a) := fun g => by
    rcases (ovl_false o3).2 with h | h <;> apply h <;> unfold side <;> first | (rw [g.1]; grind) | (rw [g.2]; grind)
  -- not far from the rectangle
  have near : ∀ Cx Cy Dx Dy : Int, ovl A.1 A.2 B.1 B.2 Cx Cy Dx Dy = false → meets A.1 A.2 B.1 B.2 Cx Cy Dx Dy = true → a ≤ Cx ∧ Cx ≤ c ∧ a ≤ Dx ∧ Dx ≤ c ∧ b ≤ Cy ∧ Cy ≤ d ∧ b ≤ Dy ∧ Dy ≤ d → bmB (min A.1 B.1, min A.2 B.2, max A.1 B.1, max A.2 B.2) (a, b, c, d) = true := by
    intro Cx Cy Dx Dy ho hm hc
    have f1 : ¬ ((A.2 < Cy ∧ A.2 < Dy ∧ B.2 < Cy ∧ B.2 < Dy) ∨ (Cy < A.2 ∧ Cy < B.2 ∧ Dy < A.2 ∧ Dy < B.2)) := fun h => by rw [meets_far_y ho h] at hm; cases hm
    have f2 : ¬ ((A.1 < Cx ∧ A.1 < Dx ∧ B.1 < Cx ∧ B.1 < Dx) ∨ (Cx < A.1 ∧ Cx < B.1 ∧ Dx < A.1 ∧ Dx < B.1)) := fun h => by rw [meets_far_x ho h] at hm; cases hm
    unfold bmB
    rw [decide_eq_true_iff]
    simp only
    omega
  have nearP : ∀ P : Int × Int, (P = A ∨ P = B) → inB (a, b, c, d) P = true → bmB (min A.1 B.1, min A.2 B.2, max A.1 B.1, max A.2 B.2) (a, b, c, d) = true := by
    intro P hP h
    have h := of_decide_eq_true h
    unfold bmB
    rw [decide_eq_true_iff]
    simp only at h ⊢
    rcases hP with rfl | rfl <;> omega
  generalize hm0 : meets A.1 A.2 B.1 B.2 a b c b = f0 at *
  generalize hm1 : meets A.1 A.2 B.1 B.2 c b c d = f1 at *
  generalize hm2 : meets A.1 A.2 B.1 B.2 c d a d = f2 at *
  generalize hm3 : meets A.1 A.2 B.1 B.2 a d a b = f3 at *
  cases gA : inB (a, b, c, d) A with
  | true => rw [nearP A (.inl rfl) gA]; rfl
  | false =>
    cases gB : inB (a, b, c, d) B with
    | true => rw [nearP B (.inr rfl) gB]; rfl
    | false =>
      have oA : Out A.1 A.2 a b c d := fun h => by
        have := of_decide_eq_false gA
        simp only at this
        omega
      have oB : Out B.1 B.2 a b c d := fun h => by
        have := of_decide_eq_false gB
        simp only at this
        omega
      simp only [Bool.false_or]
      cases hf : (((f0 || f1) || f2) || f3) with
      | false =>
        simp only [Bool.or_eq_false_iff] at hf
        obtain ⟨⟨⟨rfl, rfl⟩, rfl⟩, rfl⟩ := hf
        simp
      | true =>
        have two : ((f0 && (f1 || f2 || f3)) || (f1 && (f2 || f3)) || (f2 && f3)) = true := by
          simp only [Bool.or_eq_true] at hf
          rcases hf with ((h | h) | h) | h
          · rcases bot_two h1 h2 oA oB n0 (i0.1 h) with g | g | g
            · rw [h, i2.2 g]; simp
            · rw [h, i3.2 g]; simp
            · rw [h, i1.2 g]; simp
          · rcases right_two h1 h2 oA oB n1 (i1.1 h) with g | g | g
            · rw [h, i3.2 g]; simp
            · rw [h, i0.2 g]; simp
            · rw [h, i2.2 g]; simp
          · rcases top_two h1 h2 oA oB n2 (i2.1 h) with g | g | g
            · rw [h, i0.2 g]; simp
            · rw [h, i3.2 g]; simp
            · rw [h, i1.2 g]; simp
          · rcases left_two h1 h2 oA oB n3 (i3.1 h) with g | g | g
            · rw [h, i1.2 g]; simp
            · rw [h, i0.2 g]; simp
            · rw [h, i2.2 g]; simp
        have nr : bmB (min A.1 B.1, min A.2 B.2, max A.1 B.1, max A.2 B.2) (a, b, c, d) = true := by
          simp only [Bool.or_eq_true] at hf
          rcases hf with ((h | h) | h) | h
          · exact near a b c b o0 (hm0.trans h) (by omega)
          · exact near c b c d o1 (hm1.trans h) (by omega)
          · exact near c d a d o2 (hm2.trans h) (by omega)
          · exact near a d a b o3 (hm3.trans h) (by omega)
        rw [nr, cnt_two two]
        rfl
end
end Go.Proofs.YtbeoijpdacpaaaaGreat
