import Derived.Test.YtbfanhdofopnnaaGreatQW
import Derived.Test.YtbfanhdofopnnaaGreatQP
import Derived.Test.YtbfanhdofopnnaaGreatQI
import Derived.Test.YtbfanhdofopnnaaGreatJc
import Derived.Test.YtbfanhdofopnnaaGreatSg
import Derived.Test.YtbfanhdofopnnaaGreatSh
set_option linter.unusedSimpArgs false
set_option linter.unusedVariables false
/-! The plain law of FnRectSides: a rectangle and a line meet just if a point of the line is within, or a segment meets a side. -/
namespace PF
section
variable {x1 y1 x2 y2 a b c d : Int}
/-- which side of the line through the segment a point is on -/
theorem side_mix {u v : Int} : side x1 y1 x2 y2 u v = (v - y1) * (x2 - u) + (y2 - v) * (x1 - u) := by
  unfold side; grind
theorem pos_mul {m n : Int} (hm : 0 < m) (hn : 0 < n) : 0 < m * n := Int.mul_pos hm hn
theorem nonneg_mul {m n : Int} (hm : 0 ≤ m) (hn : 0 ≤ n) : 0 ≤ m * n := Int.mul_nonneg hm hn
theorem neg_mul {m n : Int} (hm : 0 < m) (hn : n < 0) : m * n < 0 := Int.mul_neg_of_pos_of_neg hm hn
theorem nonpos_mul {m n : Int} (hm : 0 ≤ m) (hn : n ≤ 0) : m * n ≤ 0 := Int.mul_nonpos_of_nonneg_of_nonpos hm hn
theorem nn_mul {m n : Int} (hm : m ≤ 0) (hn : 0 ≤ n) : m * n ≤ 0 := Int.mul_nonpos_of_nonpos_of_nonneg hm hn
theorem npnp_mul {m n : Int} (hm : m ≤ 0) (hn : n ≤ 0) : 0 ≤ m * n := Int.mul_nonneg_of_nonpos_of_nonpos hm hn
/-- a segment that goes up over the lower side, both its ends without, leaves by another side -/
theorem up_core (hac : a < c) (hbd : b < d) (hA : ¬ (a ≤ x1 ∧ x1 ≤ c ∧ b ≤ y1 ∧ y1 ≤ d)) (hB : ¬ (a ≤ x2 ∧ x2 ≤ c ∧ b ≤ y2 ∧ y2 ≤ d))
    (hy : y1 < y2) (h1 : y1 ≤ b) (h2 : b ≤ y2) (hf : apartB (side x1 y1 x2 y2 a b) (side x1 y1 x2 y2 c b)) :
    (apartB (y1 - d) (y2 - d) ∧ apartB (side x1 y1 x2 y2 a d) (side x1 y1 x2 y2 c d)) ∨
    (apartB (x1 - a) (x2 - a) ∧ apartB (side x1 y1 x2 y2 a b) (side x1 y1 x2 y2 a d)) ∨
    (apartB (x1 - c) (x2 - c) ∧ apartB (side x1 y1 x2 y2 c b) (side x1 y1 x2 y2 c d)) := by
  have eab : side x1 y1 x2 y2 a b = (b - y1) * (x2 - a) + (y2 - b) * (x1 - a) := side_mix
  have ecb : side x1 y1 x2 y2 c b = (b - y1) * (x2 - c) + (y2 - b) * (x1 - c) := side_mix
  have ead : side x1 y1 x2 y2 a d = (d - y1) * (x2 - a) + (y2 - d) * (x1 - a) := side_mix
  have ecd : side x1 y1 x2 y2 c d = (d - y1) * (x2 - c) + (y2 - d) * (x1 - c) := side_mix
  have edif : side x1 y1 x2 y2 a b - side x1 y1 x2 y2 c b = (y2 - y1) * (c - a) := by unfold side; grind
  have p0 := pos_mul (show 0 < y2 - y1 by omega) (show 0 < c - a by omega)
  generalize side x1 y1 x2 y2 a b = fab at *
  generalize side x1 y1 x2 y2 c b = fcb at *
  generalize side x1 y1 x2 y2 a d = fad at *
  generalize side x1 y1 x2 y2 c d = fcd at *
  generalize (y2 - y1) * (c - a) = g0 at *
  have hab : 0 ≤ fab ∧ fcb ≤ 0 := by unfold apartB at hf; omega
  clear hf edif p0
  -- the ends lie strictly below and above the lower side
  have b1 : y1 < b := by
    rcases Int.lt_or_eq_of_le h1 with h | h
    · exact h
    · exfalso
      subst h
      rw [Int.sub_self, Int.zero_mul, Int.zero_add] at eab ecb
      have q1 : a ≤ x1 := by
        rcases Int.lt_or_le x1 a with g | g
        · have := neg_mul (show 0 < y2 - y1 by omega) (show x1 - a < 0 by omega); omega
        · exact g
      have q2 : x1 ≤ c := by
        rcases Int.lt_or_le c x1 with g | g
        · have := pos_mul (show 0 < y2 - y1 by omega) (show 0 < x1 - c by omega); omega
        · exact g
      exact hA ⟨q1, q2, Int.le_refl _, by omega⟩
  have b2 : b < y2 := by
    rcases Int.lt_or_eq_of_le h2 with h | h
    · exact h
    · exfalso
      subst h
      rw [Int.sub_self, Int.zero_mul, Int.add_zero] at eab ecb
      have q1 : a ≤ x2 := by
        rcases Int.lt_or_le x2 a with g | g
        · have := neg_mul (show 0 < b - y1 by omega) (show x2 - a < 0 by omega); omega
        · exact g
      have q2 : x2 ≤ c := by
        rcases Int.lt_or_le c x2 with g | g
        · have := pos_mul (show 0 < b - y1 by omega) (show 0 < x2 - c by omega); omega
        · exact g
      exact hB ⟨q1, q2, Int.le_refl _, by omega⟩
  have w1 : 0 < b - y1 := by omega
  have w2 : 0 < y2 - b := by omega
  -- not both ends left of the left side, nor right of the right one
  have la : ¬ (x1 < a ∧ x2 < a) := by
    rintro ⟨g1, g2⟩
    have := neg_mul w1 (show x2 - a < 0 by omega)
    have := neg_mul w2 (show x1 - a < 0 by omega)
    omega
  have rc : ¬ (c < x1 ∧ c < x2) := by
    rintro ⟨g1, g2⟩
    have := pos_mul w1 (show 0 < x2 - c by omega)
    have := pos_mul w2 (show 0 < x1 - c by omega)
    omega
  have w3 : 0 < d - y1 := by omega
  unfold apartB
  rcases Int.lt_or_le y2 d with hd | hd
  · -- it ends between the lower and the upper side
    rcases Int.lt_or_le x2 a with g | g
    · have k1 := neg_mul w3 (show x2 - a < 0 by omega)
      have k2 := nn_mul (show y2 - d ≤ 0 by omega) (show 0 ≤ x1 - a by omega)
      right; left; omega
    · have g' : c < x2 := by omega
      have k1 := pos_mul w3 (show 0 < x2 - c by omega)
      have k2 := npnp_mul (show y2 - d ≤ 0 by omega) (show x1 - c ≤ 0 by omega)
      right; right; omega
  · have w4 : 0 ≤ y2 - d := by omega
    rcases Int.lt_or_le fad 0 with g | g
    · have q : ¬ (a < x1 ∧ a < x2) := by
        rintro ⟨g1, g2⟩
        have := pos_mul w3 (show 0 < x2 - a by omega)
        have := nonneg_mul w4 (show 0 ≤ x1 - a by omega)
        omega
      right; left; omega
    · rcases Int.lt_or_le 0 fcd with g' | g'
      · have q : ¬ (x1 < c ∧ x2 < c) := by
          rintro ⟨g1, g2⟩
          have := neg_mul w3 (show x2 - c < 0 by omega)
          have := nonpos_mul w4 (show x1 - c ≤ 0 by omega)
          omega
        right; right; omega
      · left; omega
/-- the four sides, in plain words: bottom, right, top, left -/
def mB (x1 y1 x2 y2 a b c _d : Int) : Prop := apartB (y1 - b) (y2 - b) ∧ apartB (side x1 y1 x2 y2 a b) (side x1 y1 x2 y2 c b)
def mR (x1 y1 x2 y2 _a b c d : Int) : Prop := apartB (x1 - c) (x2 - c) ∧ apartB (side x1 y1 x2 y2 c b) (side x1 y1 x2 y2 c d)
def mT (x1 y1 x2 y2 a _b c d : Int) : Prop := apartB (y1 - d) (y2 - d) ∧ apartB (side x1 y1 x2 y2 a d) (side x1 y1 x2 y2 c d)
def mL (x1 y1 x2 y2 a b _c d : Int) : Prop := apartB (x1 - a) (x2 - a) ∧ apartB (side x1 y1 x2 y2 a b) (side x1 y1 x2 y2 a d)
theorem side_sw {u v : Int} : side x2 y2 x1 y1 u v = -side x1 y1 x2 y2 u v := by unfold side; grind
theorem side_ry {u v : Int} : side x1 (-y1) x2 (-y2) u (-v) = -side x1 y1 x2 y2 u v := by unfold side; grind
theorem side_tr {u v : Int} : side y1 x1 y2 x2 v u = -side x1 y1 x2 y2 u v := by unfold side; grind
theorem apN {m n : Int} : apartB (-m) (-n) ↔ apartB m n := by unfold apartB; omega
theorem apSw {u v s t : Int} : apartB (side x2 y2 x1 y1 u v) (side x2 y2 x1 y1 s t) ↔ apartB (side x1 y1 x2 y2 u v) (side x1 y1 x2 y2 s t) := by
  have e1 : side x2 y2 x1 y1 u v = -side x1 y1 x2 y2 u v := side_sw
  have e2 : side x2 y2 x1 y1 s t = -side x1 y1 x2 y2 s t := side_sw
  rw [e1, e2, apN]
theorem apTr {u v s t : Int} : apartB (side y1 x1 y2 x2 v u) (side y1 x1 y2 x2 t s) ↔ apartB (side x1 y1 x2 y2 u v) (side x1 y1 x2 y2 s t) := by
  have e1 : side y1 x1 y2 x2 v u = -side x1 y1 x2 y2 u v := side_tr
  have e2 : side y1 x1 y2 x2 t s = -side x1 y1 x2 y2 s t := side_tr
  rw [e1, e2, apN]
theorem apC {m n : Int} : apartB m n ↔ apartB n m := by unfold apartB; omega
theorem apS {m n k : Int} : apartB (-m - -k) (-n - -k) ↔ apartB (m - k) (n - k) := by unfold apartB; omega
def Out (x y a b c d : Int) : Prop := ¬ (a ≤ x ∧ x ≤ c ∧ b ≤ y ∧ y ≤ d)
/-- two of the four -/
theorem bot_two (hac : a < c) (hbd : b < d) (hA : Out x1 y1 a b c d) (hB : Out x2 y2 a b c d) (hn : ¬ (y1 = b ∧ y2 = b)) (h : mB x1 y1 x2 y2 a b c d) : mT x1 y1 x2 y2 a b c d ∨ mL x1 y1 x2 y2 a b c d ∨ mR x1 y1 x2 y2 a b c d := by
  obtain ⟨h1, h2⟩ := h
  unfold Out at hA hB
  unfold mT mL mR
  rcases Int.lt_trichotomy y1 y2 with hy | hy | hy
  · exact up_core hac hbd hA hB hy (by unfold apartB at h1; omega) (by unfold apartB at h1; omega) h2
  · exfalso; unfold apartB at h1; omega
  · have h2' : apartB (side x2 y2 x1 y1 a b) (side x2 y2 x1 y1 c b) := apSw.2 h2
    have r := up_core hac hbd hB hA hy (by unfold apartB at h1; omega) (by unfold apartB at h1; omega) h2'
    rcases r with ⟨r1, r2⟩ | ⟨r1, r2⟩ | ⟨r1, r2⟩
    · exact .inl ⟨apC.1 r1, apSw.1 r2⟩
    · exact .inr (.inl ⟨apC.1 r1, apSw.1 r2⟩)
    · exact .inr (.inr ⟨apC.1 r1, apSw.1 r2⟩)
theorem top_two (hac : a < c) (hbd : b < d) (hA : Out x1 y1 a b c d) (hB : Out x2 y2 a b c d) (hn : ¬ (y1 = d ∧ y2 = d)) (h : mT x1 y1 x2 y2 a b c d) : mB x1 y1 x2 y2 a b c d ∨ mL x1 y1 x2 y2 a b c d ∨ mR x1 y1 x2 y2 a b c d := by
  have r := bot_two (x1 := x1) (y1 := -y1) (x2 := x2) (y2 := -y2) (a := a) (b := -d) (c := c) (d := -b) hac (by omega) (by unfold Out at *; omega) (by unfold Out at *; omega) (by omega) (by
    unfold mB
    unfold mT at h
    rw [side_ry, side_ry, apN, apS]
    exact h)
  unfold mT mL mR at r
  simp only [side_ry, apN, apS] at r
  unfold mB mL mR
  rcases r with ⟨r1, r2⟩ | ⟨r1, r2⟩ | ⟨r1, r2⟩
  · exact .inl ⟨r1, r2⟩
  · exact .inr (.inl ⟨r1, apC.1 r2⟩)
  · exact .inr (.inr ⟨r1, apC.1 r2⟩)
theorem left_two (hac : a < c) (hbd : b < d) (hA : Out x1 y1 a b c d) (hB : Out x2 y2 a b c d) (hn : ¬ (x1 = a ∧ x2 = a)) (h : mL x1 y1 x2 y2 a b c d) : mR x1 y1 x2 y2 a b c d ∨ mB x1 y1 x2 y2 a b c d ∨ mT x1 y1 x2 y2 a b c d := by
  have r := bot_two (x1 := y1) (y1 := x1) (x2 := y2) (y2 := x2) (a := b) (b := a) (c := d) (d := c) hbd hac (by unfold Out at *; omega) (by unfold Out at *; omega) hn (by
    unfold mB
    unfold mL at h
    exact ⟨h.1, apTr.2 h.2⟩)
  unfold mT mL mR at r
  unfold mR mB mT
  rcases r with ⟨r1, r2⟩ | ⟨r1, r2⟩ | ⟨r1, r2⟩
  · exact .inl ⟨r1, apTr.1 r2⟩
  · exact .inr (.inl ⟨r1, apTr.1 r2⟩)
  · exact .inr (.inr ⟨r1, apTr.1 r2⟩)
theorem right_two (hac : a < c) (hbd : b < d) (hA : Out x1 y1 a b c d) (hB : Out x2 y2 a b c d) (hn : ¬ (x1 = c ∧ x2 = c)) (h : mR x1 y1 x2 y2 a b c d) : mL x1 y1 x2 y2 a b c d ∨ mB x1 y1 x2 y2 a b c d ∨ mT x1 y1 x2 y2 a b c d := by
  have r := top_two (x1 := y1) (y1 := x1) (x2 := y2) (y2 := x2) (a := b) (b := a) (c := d) (d := c) hbd hac (by unfold Out at *; omega) (by unfold Out at *; omega) hn (by
    unfold mT
    unfold mR at h
    exact ⟨h.1, apTr.2 h.2⟩)
  unfold mB mL mR at r
  unfold mL mB mT
  rcases r with ⟨r1, r2⟩ | ⟨r1, r2⟩ | ⟨r1, r2⟩
  · exact .inl ⟨r1, apTr.1 r2⟩
  · exact .inr (.inl ⟨r1, apTr.1 r2⟩)
  · exact .inr (.inr ⟨r1, apTr.1 r2⟩)
/-! the sides as `meets` has them -/
theorem apM {k m n : Int} (hk : 0 < k) : apartB (k * m) (k * n) ↔ apartB m n := by
  unfold apartB
  have e1 : ∀ z, (k * z ≤ 0 ↔ z ≤ 0) := fun z => ⟨fun h => by
    rcases Int.lt_or_le 0 z with g | g
    · have := pos_mul hk g; omega
    · exact g, fun h => nonpos_mul (by omega) h⟩
  have e2 : ∀ z, (0 ≤ k * z ↔ 0 ≤ z) := fun z => ⟨fun h => by
    rcases Int.lt_or_le z 0 with g | g
    · have := neg_mul hk g; omega
    · exact g, fun h => nonneg_mul (by omega) h⟩
  rw [e1, e1, e2, e2]
theorem meets_bot (hac : a < c) : meets x1 y1 x2 y2 a b c b = true ↔ mB x1 y1 x2 y2 a b c d := by
  unfold meets mB
  rw [decide_eq_true_iff, show side a b c b x1 y1 = (c - a) * (y1 - b) from by unfold side; grind, show side a b c b x2 y2 = (c - a) * (y2 - b) from by unfold side; grind, apM (by omega)]
  exact And.comm
theorem meets_right (hbd : b < d) : meets x1 y1 x2 y2 c b c d = true ↔ mR x1 y1 x2 y2 a b c d := by
  unfold meets mR
  rw [decide_eq_true_iff, show side c b c d x1 y1 = -((d - b) * (x1 - c)) from by unfold side; grind, show side c b c d x2 y2 = -((d - b) * (x2 - c)) from by unfold side; grind, apN, apM (by omega)]
  exact And.comm
theorem meets_top (hac : a < c) : meets x1 y1 x2 y2 c d a d = true ↔ mT x1 y1 x2 y2 a b c d := by
  unfold meets mT
  rw [decide_eq_true_iff, show side c d a d x1 y1 = -((c - a) * (y1 - d)) from by unfold side; grind, show side c d a d x2 y2 = -((c - a) * (y2 - d)) from by unfold side; grind, apN, apM (by omega), apC (m := side x1 y1 x2 y2 c d)]
  exact And.comm
theorem meets_left (hbd : b < d) : meets x1 y1 x2 y2 a d a b = true ↔ mL x1 y1 x2 y2 a b c d := by
  unfold meets mL
  rw [decide_eq_true_iff, show side a d a b x1 y1 = (d - b) * (x1 - a) from by unfold side; grind, show side a d a b x2 y2 = (d - b) * (x2 - a) from by unfold side; grind, apM (by omega), apC (m := side x1 y1 x2 y2 a d)]
  exact And.comm
end
end PF
set_option linter.unusedSimpArgs false
set_option linter.unusedVariables false
/-! The plain law of FnRectSides, joined. -/
namespace Go.Proofs.YtbfanhdofopnnaaGreat
open Go.RowKit PF JR
/-- a rectangle's corners, as FnRectSides has them -/
def crn (a b c d : Int) : List (Int × Int) := [(a, b), (c, b), (c, d), (a, d)]
/-- segment j of m meets side k -/
def qs (a b c d : Int) (m : List (Int × Int)) (j k : Nat) : Bool := meets (at' m j).1 (at' m j).2 (nxp m j).1 (nxp m j).2 (at' (crn a b c d) k).1 (at' (crn a b c d) k).2 (nxp (crn a b c d) k).1 (nxp (crn a b c d) k).2
def os (a b c d : Int) (m : List (Int × Int)) (j k : Nat) : Bool := ovl (at' m j).1 (at' m j).2 (nxp m j).1 (nxp m j).2 (at' (crn a b c d) k).1 (at' (crn a b c d) k).2 (nxp (crn a b c d) k).1 (nxp (crn a b c d) k).2
/-- point j of m is within, or its segment meets a side -/
def rhit (a b c d : Int) (m : List (Int × Int)) (j : Nat) : Bool := inB (a, b, c, d) (at' m j) || (decide (j + 1 < m.length) && anyN (qs a b c d m j) 4)
section
variable {a b c d : Int}
theorem rect_has (h1 : a < c) (h2 : b < d) (p : Int × Int) : ringHas (rl a b c d) p true = inB (a, b, c, d) p := by
  obtain ⟨x, y⟩ := p
  have e : ringHas (rl a b c d) (x, y) true = _ := qd_has (a, b) (c, b) (c, d) (a, d) (x, y) true
  rw [e, show ppB true (qd (a, b) (c, b) (c, d) (a, d)) = (a, b, c, d) from rl_box (Int.le_of_lt h1) (Int.le_of_lt h2)]
  cases g : inB (a, b, c, d) (x, y) with
  | false => rfl
  | true =>
    have g := of_decide_eq_true g
    simp only at g
    simp only [Bool.true_and, Bool.and_true, Bool.false_or]
    by_cases e1 : y = b
    · have : rcOn a b c b x y = true := rcOn_flat rfl e1 (.inl ⟨g.1, g.2.1⟩)
      rw [this]; simp
    by_cases e2 : y = d
    · have : rcOn c d a d x y = true := rcOn_flat rfl e2 (.inr ⟨g.1, g.2.1⟩)
      rw [this]; simp
    by_cases e3 : x = c
    · have : rcOn c b c d x y = true := rcOn_up h2 g.2.2.1 g.2.2.2 (by rw [e3]; simp)
      rw [this]; simp
    by_cases e4 : x = a
    · have : rcOn a d a b x y = true := rcOn_down h2 g.2.2.1 g.2.2.2 (by rw [e4]; simp)
      rw [this]; simp
    have z0 := neg_mul (m := d - b) (n := x - c) (by omega) (by omega)
    have z1 := pos_mul (m := d - b) (n := x - a) (by omega) (by omega)
    have f0 : rcIn a b c b x y = false := rcIn_flat rfl
    have f2 : rcIn c d a d x y = false := rcIn_flat rfl
    have f1 : rcIn c b c d x y = true := by
      unfold rcIn
      rw [decide_eq_true_iff]
      left
      rw [Int.sub_self, Int.mul_zero]
      exact ⟨g.2.2.1, by omega, z0⟩
    have f3 : rcIn a d a b x y = false := by
      unfold rcIn
      rw [decide_eq_false_iff_not]
      rw [Int.sub_self, Int.mul_zero, show (b - d) * (x - a) = -((d - b) * (x - a)) from by grind]
      omega
    rw [f0, f1, f2, f3]
    cases (((rcOn a b c b x y || rcOn c b c d x y) || rcOn c d a d x y) || rcOn a d a b x y) <;> rfl
theorem sx_meets {Ax Ay Bx By Cx Cy Dx Dy : Int} (ho : ovl Ax Ay Bx By Cx Cy Dx Dy = false) : sx Ax Ay Bx By Cx Cy Dx Dy = meets Ax Ay Bx By Cx Cy Dx Dy := by
  have h2 := (ovl_false ho).1
  unfold sx
  split
  · rename_i h; exact (meets_far_y ho h).symm
  split
  · rename_i h; exact (meets_far_x ho h).symm
  split
  · rename_i h; exact (meets_end h).symm
  split
  · rename_i h
    have h3 : side Ax Ay Bx By Dx Dy ≠ 0 := by
      rcases h2 with g | g
      · exact absurd h g
      · exact g
    rw [on_iff h h3, on_not h3, Bool.or_false]
  · rfl
theorem cnt_two {f0 f1 f2 f3 : Bool} (h : ((f0 && (f1 || f2 || f3)) || (f1 && (f2 || f3)) || (f2 && f3)) = true) : decide (2 ≤ (((0 + if f0 = true then 1 else 0) + if f1 = true then 1 else 0) + if f2 = true then 1 else 0) + if f3 = true then 1 else 0) = true := by
  cases f0 <;> cases f1 <;> cases f2 <;> cases f3 <;> first | rfl | cases h
/-- a segment that lies along no side -/
theorem risP_rl (h1 : a < c) (h2 : b < d) (A B : Int × Int) (o0 : ovl A.1 A.2 B.1 B.2 a b c b = false) (o1 : ovl A.1 A.2 B.1 B.2 c b c d = false) (o2 : ovl A.1 A.2 B.1 B.2 c d a d = false) (o3 : ovl A.1 A.2 B.1 B.2 a d a b = false) :
    risP (rl a b c d) A B = (inB (a, b, c, d) A || inB (a, b, c, d) B || (((meets A.1 A.2 B.1 B.2 a b c b || meets A.1 A.2 B.1 B.2 c b c d) || meets A.1 A.2 B.1 B.2 c d a d) || meets A.1 A.2 B.1 B.2 a d a b)) := by
  have e : decide (2 ≤ cntN (fun k => sxp A B (at' (rl a b c d) k) (nxp (rl a b c d) k)) (nSeg true (rl a b c d))) = _ := congrArg (fun n => decide (2 ≤ n)) (qd_cnt (a, b) (c, b) (c, d) (a, d) (sxp A B))
  unfold risP
  rw [e, rect_has h1 h2, rect_has h1 h2, rl_box (Int.le_of_lt h1) (Int.le_of_lt h2)]
  have s0 : sxp A B (a, b) (c, b) = meets A.1 A.2 B.1 B.2 a b c b := sx_meets o0
  have s1 : sxp A B (c, b) (c, d) = meets A.1 A.2 B.1 B.2 c b c d := sx_meets o1
  have s2 : sxp A B (c, d) (a, d) = meets A.1 A.2 B.1 B.2 c d a d := sx_meets o2
  have s3 : sxp A B (a, d) (a, b) = meets A.1 A.2 B.1 B.2 a d a b := sx_meets o3
  rw [s0, s1, s2, s3]
  have i0 := meets_bot (x1 := A.1) (y1 := A.2) (x2 := B.1) (y2 := B.2) (a := a) (b := b) (c := c) (d := d) h1
  have i1 := meets_right (x1 := A.1) (y1 := A.2) (x2 := B.1) (y2 := B.2) (a := a) (b := b) (c := c) (d := d) h2
  have i2 := meets_top (x1 := A.1) (y1 := A.2) (x2 := B.1) (y2 := B.2) (a := a) (b := b) (c := c) (d := d) h1
  have i3 := meets_left (x1 := A.1) (y1 := A.2) (x2 := B.1) (y2 := B.2) (a := a) (b := b) (c := c) (d := d) h2
  have n0 : ¬ (A.2 = b ∧ B.2 = b) := fun g => by
    rcases (ovl_false o0).2 with h | h <;> apply h <;> unfold side <;> first | (rw [g.1]; grind) | (rw [g.2]; grind)
  have n1 : ¬ (A.1 = c ∧ B.1 = c) := fun g => by
    rcases (ovl_false o1).2 with h | h <;> apply h <;> unfold side <;> first | (rw [g.1]; grind) | (rw [g.2]; grind)
  have n2 : ¬ (A.2 = d ∧ B.2 = d) := fun g => by
    rcases (ovl_false o2).2 with h | h <;> apply h <;> unfold side <;> first | (rw [g.1]; grind) | (rw [g.2]; grind)
  have n3 : ¬ (A.1 = a ∧ B.1 = a) := fun g => by
    rcases (ovl_false o3).2 with h | h <;> apply h <;> unfold side <;> first | (rw [g.1]; grind) | (rw [g.2]; grind)
  -- not far from the rectangle
  have near : ∀ Cx Cy Dx Dy : Int, ovl A.1 A.2 B.1 B.2 Cx Cy Dx Dy = false → meets A.1 A.2 B.1 B.2 Cx Cy Dx Dy = true → a ≤ Cx ∧ Cx ≤ c ∧ a ≤ Dx ∧ Dx ≤ c ∧ b ≤ Cy ∧ Cy ≤ d ∧ b ≤ Dy ∧ Dy ≤ d → bmB (min A.1 B.1, min A.2 B.2, max A.1 B.1, max A.2 B.2) (a, b, c, d) = true := by
    intro Cx Cy Dx Dy ho hm hc
    have f1 : ¬ ((A.2 < Cy ∧ A.2 < Dy ∧ B.2 < Cy ∧ B.2 < Dy) ∨ (Cy < A.2 ∧ Cy < B.2 ∧ Dy < A.2 ∧ Dy < B.2)) := fun h => by rw [meets_far_y ho h] at hm; cases hm
    have f2 : ¬ ((A.1 < Cx ∧ A.1 < Dx ∧ B.1 < Cx ∧ B.1 < Dx) ∨ (Cx < A.1 ∧ Cx < B.1 ∧ Dx < A.1 ∧ Dx < B.1)) := fun h => by rw [meets_far_x ho h] at hm; cases hm
    unfold bmB
    rw [decide_eq_true_iff]
    simp only
    omega
  have nearP : ∀ P : Int × Int, (P = A ∨ P = B) → inB (a, b, c, d) P = true → bmB (min A.1 B.1, min A.2 B.2, max A.1 B.1, max A.2 B.2) (a, b, c, d) = true := by
    intro P hP h
    have h := of_decide_eq_true h
    unfold bmB
    rw [decide_eq_true_iff]
    simp only at h ⊢
    rcases hP with rfl | rfl <;> omega
  generalize hm0 : meets A.1 A.2 B.1 B.2 a b c b = f0 at *
  generalize hm1 : meets A.1 A.2 B.1 B.2 c b c d = f1 at *
  generalize hm2 : meets A.1 A.2 B.1 B.2 c d a d = f2 at *
  generalize hm3 : meets A.1 A.2 B.1 B.2 a d a b = f3 at *
  cases gA : inB (a, b, c, d) A with
  | true => rw [nearP A (.inl rfl) gA]; rfl
  | false =>
    cases gB : inB (a, b, c, d) B with
    | true => rw [nearP B (.inr rfl) gB]; rfl
    | false =>
      have oA : Out A.1 A.2 a b c d := fun h => by
        have := of_decide_eq_false gA
        simp only at this
        omega
      have oB : Out B.1 B.2 a b c d := fun h => by
        have := of_decide_eq_false gB
        simp only at this
        omega
      simp only [Bool.false_or]
      cases hf : (((f0 || f1) || f2) || f3) with
      | false =>
        simp only [Bool.or_eq_false_iff] at hf
        obtain ⟨⟨⟨rfl, rfl⟩, rfl⟩, rfl⟩ := hf
        simp
      | true =>
        have two : ((f0 && (f1 || f2 || f3)) || (f1 && (f2 || f3)) || (f2 && f3)) = true := by
          simp only [Bool.or_eq_true] at hf
          rcases hf with ((h | h) | h) | h
          · rcases bot_two h1 h2 oA oB n0 (i0.1 h) with g | g | g
            · rw [h, i2.2 g]; simp
            · rw [h, i3.2 g]; simp
            · rw [h, i1.2 g]; simp
          · rcases right_two h1 h2 oA oB n1 (i1.1 h) with g | g | g
            · rw [h, i3.2 g]; simp
            · rw [h, i0.2 g]; simp
            · rw [h, i2.2 g]; simp
          · rcases top_two h1 h2 oA oB n2 (i2.1 h) with g | g | g
            · rw [h, i0.2 g]; simp
            · rw [h, i3.2 g]; simp
            · rw [h, i1.2 g]; simp
          · rcases left_two h1 h2 oA oB n3 (i3.1 h) with g | g | g
            · rw [h, i1.2 g]; simp
            · rw [h, i0.2 g]; simp
            · rw [h, i2.2 g]; simp
        have nr : bmB (min A.1 B.1, min A.2 B.2, max A.1 B.1, max A.2 B.2) (a, b, c, d) = true := by
          simp only [Bool.or_eq_true] at hf
          rcases hf with ((h | h) | h) | h
          · exact near a b c b o0 (hm0.trans h) (by omega)
          · exact near c b c d o1 (hm1.trans h) (by omega)
          · exact near c d a d o2 (hm2.trans h) (by omega)
          · exact near a d a b o3 (hm3.trans h) (by omega)
        rw [nr, cnt_two two]
        rfl
/-- **a rectangle and a line meet just if a point of the line is within, or a segment meets a side** -/
theorem rect_sides (h1 : a < c) (h2 : b < d) (m : List (Int × Int)) (hm : 2 ≤ m.length) (hno : ∀ j k, j + 1 < m.length → k < 4 → os a b c d m j k = false) :
    rilV (rl a b c d) m = anyN (rhit a b c d m) m.length := by
  have e4 : ∀ j, anyN (qs a b c d m j) 4 = ((((false || qs a b c d m j 0) || qs a b c d m j 1) || qs a b c d m j 2) || qs a b c d m j 3) := fun j => rfl
  have hseg : ∀ i, i + 1 < m.length → risV (rl a b c d) m i = (inB (a, b, c, d) (at' m i) || inB (a, b, c, d) (nxp m i) || anyN (qs a b c d m i) 4) := by
    intro i hi
    refine (risP_rl h1 h2 (at' m i) (nxp m i) (hno i 0 hi (by omega)) (hno i 1 hi (by omega)) (hno i 2 hi (by omega)) (hno i 3 hi (by omega))).trans ?_
    rw [e4, Bool.false_or]
    rfl
  have hnx : ∀ i, i + 1 < m.length → nxp m i = at' m (i + 1) := fun i hi => by unfold nxp; rw [if_neg (by omega)]
  unfold rilV
  rw [anyN_congr (f := fun k => ringHas (rl a b c d) (at' m k) true) fun k _ => rect_has h1 h2 (at' m k), rl_box (Int.le_of_lt h1) (Int.le_of_lt h2)]
  rw [Bool.eq_iff_iff, Bool.and_eq_true, Bool.or_eq_true, anyN_iff, anyN_iff, anyN_iff]
  constructor
  · rintro ⟨-, ⟨k, hk, e⟩ | ⟨i, hi, e⟩⟩
    · exact ⟨k, hk, by unfold rhit; rw [e]; rfl⟩
    · rw [hseg i (by omega), Bool.or_eq_true, Bool.or_eq_true] at e
      rcases e with (e | e) | e
      · exact ⟨i, by omega, by unfold rhit; rw [e]; rfl⟩
      · rw [hnx i (by omega)] at e
        exact ⟨i + 1, by omega, by unfold rhit; rw [e]; rfl⟩
      · exact ⟨i, by omega, by unfold rhit; rw [e, decide_eq_true (by omega), Bool.and_self, Bool.or_true]⟩
  · rintro ⟨j, hj, e⟩
    have hbox := (box_spec m (by omega)).1
    have ebx : ppB false m = box m := by unfold ppB tooS; rw [if_neg (by simp; try omega)]
    unfold rhit at e
    rw [Bool.or_eq_true] at e
    rcases e with e | e
    · refine ⟨?_, .inl ⟨j, hj, e⟩⟩
      have e := of_decide_eq_true e
      have hb := hbox (at' m j) (List.mem_of_getElem? (at_get hj))
      rw [ebx]
      unfold bmB
      rw [decide_eq_true_iff]
      simp only at e ⊢
      omega
    · rw [Bool.and_eq_true, decide_eq_true_iff] at e
      have er : risV (rl a b c d) m j = true := by rw [hseg j e.1, e.2, Bool.or_true]
      refine ⟨?_, .inr ⟨j, by omega, er⟩⟩
      have er' : risP (rl a b c d) (at' m j) (nxp m j) = true := er
      unfold risP at er'
      rw [Bool.and_eq_true, rl_box (Int.le_of_lt h1) (Int.le_of_lt h2)] at er'
      have e2 := of_decide_eq_true er'.1
      have hb := hbox (at' m j) (List.mem_of_getElem? (at_get hj))
      have hb2 := hbox (nxp m j) (by rw [hnx j e.1]; exact List.mem_of_getElem? (at_get e.1))
      rw [ebx]
      unfold bmB
      rw [decide_eq_true_iff]
      simp only at e2 ⊢
      omega
end
end Go.Proofs.YtbfanhdofopnnaaGreat
set_option linter.unusedSimpArgs false
set_option linter.unusedVariables false
/-! impl.SegmentAsk, over the exact IntersectsSegment (XSa turned to it). -/
namespace Go.Proofs.YtbfanhdofopnnaaGreat
open Go.RowKit PF JR
/-- what IntersectsSegment answers of segments that do not lie on one line -/
def SisP (Ax Ay Bx By Cx Cy Dx Dy : Int) (w : World) (e : Ending) (w' : World) : Prop :=
  ∃ ans : Bool, e = .returned (.bool ans) ∧ (ovl Ax Ay Bx By Cx Cy Dx Dy = false → ans = meets Ax Ay Bx By Cx Cy Dx Dy) ∧ Below w.heap.size w w'
theorem sis_c {ax ay bx bY cx cy dx dy : Nat} {Ax Ay Bx By Cx Cy Dx Dy : Int} (hax : Rep ax Ax) (hay : Rep ay Ay) (hbx : Rep bx Bx) (hby : Rep bY By) (hcx : Rep cx Cx) (hcy : Rep cy Cy) (hdx : Rep dx Dx) (hdy : Rep dy Dy)
    (b1 : -12288 ≤ Ax ∧ Ax ≤ 12288 ∧ -12288 ≤ Ay ∧ Ay ≤ 12288 ∧ -12288 ≤ Bx ∧ Bx ≤ 12288 ∧ -12288 ≤ By ∧ By ≤ 12288) (b2 : -12288 ≤ Cx ∧ Cx ≤ 12288 ∧ -12288 ≤ Cy ∧ Cy ≤ 12288 ∧ -12288 ≤ Dx ∧ Dx ≤ 12288 ∧ -12288 ≤ Dy ∧ Dy ≤ 12288) (w : World) :
    Calls Tryz.prog 60 #[.agg #[fl ax, fl ay, fl bx, fl bY], .agg #[fl cx, fl cy, fl dx, fl dy]] w (SisP Ax Ay Bx By Cx Cy Dx Dy w) :=
  (six_c hax hay hbx hby hcx hcy hdx hdy b1 b2 w).mono fun e w' h => ⟨_, h.1, fun ho => sx_meets ho, h.2⟩

/-- the answer of SegmentAsk, cell by cell -/
def SaA (Ax Ay Bx By Cx Cy Dx Dy : Int) (v : Value) : Prop := ∃ ans : Bool, v = .bool ans ∧ (ovl Ax Ay Bx By Cx Cy Dx Dy = false → ans = meets Ax Ay Bx By Cx Cy Dx Dy)
def SaB (q1 q2 q3 : Bool) (Ax Ay Bx By Cx Cy Dx Dy : Int) (cs : Array Value) : Prop := ∃ ans : Bool, cs = #[.bool q1, .bool q3, .bool (q1 && q2), .bool ans, .int .i64 (min Ax Bx), .int .i64 (min Ay By), .int .i64 (max Ax Bx), .int .i64 (max Ay By)] ∧ (ovl Ax Ay Bx By Cx Cy Dx Dy = false → ans = meets Ax Ay Bx By Cx Cy Dx Dy)
def SaskV (Ax Ay Bx By Cx Cy Dx Dy : Int) (ans : Bool) : Array Value := #[.bool (rcOn Ax Ay Bx By Cx Cy), .bool (decide (side Ax Ay Bx By Cx Cy = 0)), .bool (rcOn Ax Ay Bx By Cx Cy && rcOn Ax Ay Bx By Dx Dy), .bool ans, .int .i64 (min Ax Bx), .int .i64 (min Ay By), .int .i64 (max Ax Bx), .int .i64 (max Ay By)]
def SaskP (Ax Ay Bx By Cx Cy Dx Dy : Int) (w : World) (e : Ending) (w' : World) : Prop :=
  ∃ ans : Bool, e = .returned (.agg (SaskV Ax Ay Bx By Cx Cy Dx Dy ans)) ∧ (ovl Ax Ay Bx By Cx Cy Dx Dy = false → ans = meets Ax Ay Bx By Cx Cy Dx Dy) ∧ Below w.heap.size w w'
theorem SaskP.mk {Ax Ay Bx By Cx Cy Dx Dy : Int} {w w' : World} {e : Ending} (ans : Bool) (h1 : ovl Ax Ay Bx By Cx Cy Dx Dy = false → ans = meets Ax Ay Bx By Cx Cy Dx Dy) (h : e = .returned (.agg (SaskV Ax Ay Bx By Cx Cy Dx Dy ans))) (h2 : Below w.heap.size w w') : SaskP Ax Ay Bx By Cx Cy Dx Dy w e w' := ⟨ans, h, h1, h2⟩
theorem _root_.PF.stop_region0 {P : Program} {id : Nat} {ops : Array Oper} {Q : Exit → Act → World → Prop} {a : Act} {w : World} (h : Stop0 ((Code.region id ops true).wp P Q a w)) : (Code.region id ops true).wp P Q a w := h.out
set_option maxHeartbeats 4000000 in
set_option maxRecDepth 100000 in
theorem sask_c (Ax Ay Bx By Cx Cy Dx Dy : Int) (b1 : -12288 ≤ Ax ∧ Ax ≤ 12288 ∧ -12288 ≤ Ay ∧ Ay ≤ 12288 ∧ -12288 ≤ Bx ∧ Bx ≤ 12288 ∧ -12288 ≤ By ∧ By ≤ 12288) (b2 : -12288 ≤ Cx ∧ Cx ≤ 12288 ∧ -12288 ≤ Cy ∧ Cy ≤ 12288 ∧ -12288 ≤ Dx ∧ Dx ≤ 12288 ∧ -12288 ≤ Dy ∧ Dy ≤ 12288) (w : World) :
    Calls Tryz.prog 26 #[.agg #[.int .i64 Ax, .int .i64 Ay], .agg #[.int .i64 Bx, .int .i64 By], .agg #[.int .i64 Cx, .int .i64 Cy], .agg #[.int .i64 Dx, .int .i64 Dy]] w (SaskP Ax Ay Bx By Cx Cy Dx Dy w) := by
  have rAx := fb_rep Ax (by omega)
  have rAy := fb_rep Ay (by omega)
  have rBx := fb_rep Bx (by omega)
  have rBy := fb_rep By (by omega)
  have rCx := fb_rep Cx (by omega)
  have rCy := fb_rep Cy (by omega)
  have rDx := fb_rep Dx (by omega)
  have rDy := fb_rep Dy (by omega)
  have hcn := fun u => scp_c rAx rAy rBx rBy rCx rCy (by omega) u
  have hcl := fun u => col_c rAx rAy rBx rBy rCx rCy (by omega) u
  have hcs := fun u => scs_c rAx rAy rBx rBy rCx rCy rDx rDy (by omega) (by omega) u
  have his := fun u => sis_c rAx rAy rBx rBy rCx rCy rDx rDy b1 b2 u
  have hsr := fun u => sgr_c rAx rAy rBx rBy u
  have hco := fun u => corn_c (ite_min rAx rBx) (ite_min rAy rBy) (ite_max rAx rBx) (ite_max rAy rBy) (fun h1 h2 w => from_c h1 h2 w) u
  obtain ⟨q1, hq1⟩ : ∃ q, rcOn Ax Ay Bx By Cx Cy = q := ⟨_, rfl⟩
  obtain ⟨q2, hq2⟩ : ∃ q, rcOn Ax Ay Bx By Dx Dy = q := ⟨_, rfl⟩
  obtain ⟨q3, hq3⟩ : ∃ q, decide (side Ax Ay Bx By Cx Cy = 0) = q := ⟨_, rfl⟩
  rw [hq1] at hcn
  rw [hq1, hq2] at hcs
  rw [hq3] at hcl
  generalize fl (if Bx < Ax then fb Bx else fb Ax) = k0 at *
  generalize fl (if By < Ay then fb By else fb Ay) = k1 at *
  generalize fl (if Bx < Ax then fb Ax else fb Bx) = k2 at *
  generalize fl (if By < Ay then fb Ay else fb By) = k3 at *
  have st0 := (((((Blk.nil w).push rfl #[.int .i64 Ax, .int .i64 Ay] 42).push (b := w.heap.size + 1) (by simp) #[.int .i64 Bx, .int .i64 By] 42).push (b := w.heap.size + 1 + 1) (by simp) #[.int .i64 Cx, .int .i64 Cy] 42).push (b := w.heap.size + 1 + 1 + 1) (by simp) #[.int .i64 Dx, .int .i64 Dy] 42).push (b := w.heap.size + 1 + 1 + 1 + 1) (by simp) #[.bool false, .bool false, .bool false, .bool false, .int .i64 0, .int .i64 0, .int .i64 0, .int .i64 0] 61
  have za0 := st0.cell 4 rfl 0
  have za1 := st0.cell 4 rfl 1
  have zb0 := st0.cell 3 rfl 0
  have zb1 := st0.cell 3 rfl 1
  have zc0 := st0.cell 2 rfl 0
  have zc1 := st0.cell 2 rfl 1
  have zd0 := st0.cell 1 rfl 0
  have zd1 := st0.cell 1 rfl 1
  simp only [List.getElem?_toArray, List.getElem?_cons_zero, List.getElem?_cons_succ] at za0 za1 zb0 zb1 zc0 zc1 zd0 zd1
  go_enter Tryz.func26, Tryz.ntmps26
  go_wp2
  refine wp_region_K [] [.val (.agg #[.int .i64 Ax, .int .i64 Ay]),
      .val (.agg #[fl (fb Ax), fl (fb Ay)]),
      .val (.agg #[.int .i64 Bx, .int .i64 By]),
      .val (.agg #[fl (fb Bx), fl (fb By)]),
      .val (.agg #[fl (fb Ax), fl (fb Ay), fl (fb Bx), fl (fb By)]),
      .val (.agg #[.int .i64 Cx, .int .i64 Cy]),
      .val (.agg #[fl (fb Cx), fl (fb Cy)]),
      .val (.agg #[.int .i64 Dx, .int .i64 Dy]),
      .val (.agg #[fl (fb Dx), fl (fb Dy)]),
      .val (.agg #[fl (fb Cx), fl (fb Cy), fl (fb Dx), fl (fb Dy)]),
      .made 100 4,
      .made 100 4,
      .filled 9 #[fl (fb Ax), fl (fb Ay), fl (fb Bx), fl (fb By)] 100,
      .filled 10 #[fl (fb Cx), fl (fb Cy), fl (fb Dx), fl (fb Dy)] 100]
    [[.ini 4], [.frm 0 11], [.ini 5], [.frm 2 13], [.frm 1 12, .frm 3 14], [.ini 6], [.frm 5 16], [.ini 7], [.frm 7 18], [.frm 6 17, .frm 8 19], [], [], [.frm 10 9, .frm 4 15], [.frm 11 10, .frm 9 20]]
    mixed (by kernel_rfl) (by kernel_rfl) (allPre_of ⟨trivial, trivial, trivial, trivial, trivial, trivial, trivial, trivial, trivial, trivial, trivial, trivial, trivial, trivial, trivial⟩)
    ⟨OpOk.quiet rfl ?_,
      OpOk.call rfl ?_,
      OpOk.quiet rfl ?_,
      OpOk.call rfl ?_,
      OpOk.quiet rfl ?_,
      OpOk.quiet rfl ?_,
      OpOk.call rfl ?_,
      OpOk.quiet rfl ?_,
      OpOk.call rfl ?_,
      OpOk.quiet rfl ?_,
      OpOk.made (cs := #[fl 0, fl 0, fl 0, fl 0]) rfl rfl ?_,
      OpOk.made (cs := #[fl 0, fl 0, fl 0, fl 0]) rfl rfl ?_,
      OpOk.fillRow (k := 10) rfl rfl (by kernel_rfl) rfl (oldLt_of ⟨(fun _ h => (nomatch h)), (fun _ h => (nomatch h)), (fun _ h => (nomatch h)), (fun _ h => (nomatch h)), (fun _ h => (nomatch h)), (fun _ h => (nomatch h)), (fun _ h => (nomatch h)), (fun _ h => (nomatch h)), (fun _ h => (nomatch h)), (fun _ h => (nomatch h)), (fun _ h => (nomatch h)), (fun _ h => (nomatch h)), (fun _ h => (nomatch h)), (fun _ h => (nomatch h)), trivial⟩) (by kernel_rfl) (by simp [Value.oneCell']) (fun a w hf => ⟨hf.1, hf.2.1.elim fun _ h => h.elim fun _ h => h⟩) (fun _ _ _ h hb => Keep.setRow h (.inl hb)),
      OpOk.fillRow (k := 11) rfl rfl (by kernel_rfl) rfl (oldLt_of ⟨(fun _ h => (nomatch h)), (fun _ h => (nomatch h)), (fun _ h => (nomatch h)), (fun _ h => (nomatch h)), (fun _ h => (nomatch h)), (fun _ h => (nomatch h)), (fun _ h => (nomatch h)), (fun _ h => (nomatch h)), (fun _ h => (nomatch h)), (fun _ h => (nomatch h)), (fun _ h => (nomatch h)), (fun _ h => (nomatch h)), (fun _ h => (nomatch h)), (fun _ h => (nomatch h)), trivial⟩) (by kernel_rfl) (by simp [Value.oneCell']) (fun a w hf => ⟨hf.1, hf.2.1.elim fun _ h => h.elim fun _ h => h⟩) (fun _ _ _ h hb => Keep.setRow h (.inl hb)), trivial⟩ ?_
  · intro a u hG hf
    simp [facts, Need.fact, Act.eval] at hf
    have hc := True.intro
    have ya0 := (hG.cell (p := ⟨w.heap.size, 0, none⟩) (st0.lt 4 rfl) (by simp)).trans za0
    have ya1 := (hG.cell (p := ⟨w.heap.size, 1, none⟩) (st0.lt 4 rfl) (by simp)).trans za1
    have yb0 := (hG.cell (p := ⟨w.heap.size + 1, 0, none⟩) (st0.lt 3 rfl) (by simp)).trans zb0
    have yb1 := (hG.cell (p := ⟨w.heap.size + 1, 1, none⟩) (st0.lt 3 rfl) (by simp)).trans zb1
    have yc0 := (hG.cell (p := ⟨w.heap.size + 1 + 1, 0, none⟩) (st0.lt 2 rfl) (by simp)).trans zc0
    have yc1 := (hG.cell (p := ⟨w.heap.size + 1 + 1, 1, none⟩) (st0.lt 2 rfl) (by simp)).trans zc1
    have yd0 := (hG.cell (p := ⟨w.heap.size + 1 + 1 + 1, 0, none⟩) (st0.lt 1 rfl) (by simp)).trans zd0
    have yd1 := (hG.cell (p := ⟨w.heap.size + 1 + 1 + 1, 1, none⟩) (st0.lt 1 rfl) (by simp)).trans zd1

    go_simp
  · intro a u _ hf
    simp [facts, Need.fact, Ent.val, Act.eval] at hf
    refine ⟨_, _, by go_simp, (pt_c Ax Ay _).mono ?_⟩
    rintro e w' ⟨rfl, hb⟩
    exact ⟨_, rfl, hb, rfl⟩
  · intro a u hG hf
    simp [facts, Need.fact, Act.eval] at hf
    have hc := True.intro
    have ya0 := (hG.cell (p := ⟨w.heap.size, 0, none⟩) (st0.lt 4 rfl) (by simp)).trans za0
    have ya1 := (hG.cell (p := ⟨w.heap.size, 1, none⟩) (st0.lt 4 rfl) (by simp)).trans za1
    have yb0 := (hG.cell (p := ⟨w.heap.size + 1, 0, none⟩) (st0.lt 3 rfl) (by simp)).trans zb0
    have yb1 := (hG.cell (p := ⟨w.heap.size + 1, 1, none⟩) (st0.lt 3 rfl) (by simp)).trans zb1
    have yc0 := (hG.cell (p := ⟨w.heap.size + 1 + 1, 0, none⟩) (st0.lt 2 rfl) (by simp)).trans zc0
    have yc1 := (hG.cell (p := ⟨w.heap.size + 1 + 1, 1, none⟩) (st0.lt 2 rfl) (by simp)).trans zc1
    have yd0 := (hG.cell (p := ⟨w.heap.size + 1 + 1 + 1, 0, none⟩) (st0.lt 1 rfl) (by simp)).trans zd0
    have yd1 := (hG.cell (p := ⟨w.heap.size + 1 + 1 + 1, 1, none⟩) (st0.lt 1 rfl) (by simp)).trans zd1

    go_simp
  · intro a u _ hf
    simp [facts, Need.fact, Ent.val, Act.eval] at hf
    refine ⟨_, _, by go_simp, (pt_c Bx By _).mono ?_⟩
    rintro e w' ⟨rfl, hb⟩
    exact ⟨_, rfl, hb, rfl⟩
  · intro a u _ hf
    simp [facts, Need.fact, Ent.val, Act.eval] at hf
    go_simp
  · intro a u hG hf
    simp [facts, Need.fact, Act.eval] at hf
    have hc := True.intro
    have ya0 := (hG.cell (p := ⟨w.heap.size, 0, none⟩) (st0.lt 4 rfl) (by simp)).trans za0
    have ya1 := (hG.cell (p := ⟨w.heap.size, 1, none⟩) (st0.lt 4 rfl) (by simp)).trans za1
    have yb0 := (hG.cell (p := ⟨w.heap.size + 1, 0, none⟩) (st0.lt 3 rfl) (by simp)).trans zb0
    have yb1 := (hG.cell (p := ⟨w.heap.size + 1, 1, none⟩) (st0.lt 3 rfl) (by simp)).trans zb1
    have yc0 := (hG.cell (p := ⟨w.heap.size + 1 + 1, 0, none⟩) (st0.lt 2 rfl) (by simp)).trans zc0
    have yc1 := (hG.cell (p := ⟨w.heap.size + 1 + 1, 1, none⟩) (st0.lt 2 rfl) (by simp)).trans zc1
    have yd0 := (hG.cell (p := ⟨w.heap.size + 1 + 1 + 1, 0, none⟩) (st0.lt 1 rfl) (by simp)).trans zd0
    have yd1 := (hG.cell (p := ⟨w.heap.size + 1 + 1 + 1, 1, none⟩) (st0.lt 1 rfl) (by simp)).trans zd1

    go_simp
  · intro a u _ hf
    simp [facts, Need.fact, Ent.val, Act.eval] at hf
    refine ⟨_, _, by go_simp, (pt_c Cx Cy _).mono ?_⟩
    rintro e w' ⟨rfl, hb⟩
    exact ⟨_, rfl, hb, rfl⟩
  · intro a u hG hf
    simp [facts, Need.fact, Act.eval] at hf
    have hc := True.intro
    have ya0 := (hG.cell (p := ⟨w.heap.size, 0, none⟩) (st0.lt 4 rfl) (by simp)).trans za0
    have ya1 := (hG.cell (p := ⟨w.heap.size, 1, none⟩) (st0.lt 4 rfl) (by simp)).trans za1
    have yb0 := (hG.cell (p := ⟨w.heap.size + 1, 0, none⟩) (st0.lt 3 rfl) (by simp)).trans zb0
    have yb1 := (hG.cell (p := ⟨w.heap.size + 1, 1, none⟩) (st0.lt 3 rfl) (by simp)).trans zb1
    have yc0 := (hG.cell (p := ⟨w.heap.size + 1 + 1, 0, none⟩) (st0.lt 2 rfl) (by simp)).trans zc0
    have yc1 := (hG.cell (p := ⟨w.heap.size + 1 + 1, 1, none⟩) (st0.lt 2 rfl) (by simp)).trans zc1
    have yd0 := (hG.cell (p := ⟨w.heap.size + 1 + 1 + 1, 0, none⟩) (st0.lt 1 rfl) (by simp)).trans zd0
    have yd1 := (hG.cell (p := ⟨w.heap.size + 1 + 1 + 1, 1, none⟩) (st0.lt 1 rfl) (by simp)).trans zd1

    go_simp
  · intro a u _ hf
    simp [facts, Need.fact, Ent.val, Act.eval] at hf
    refine ⟨_, _, by go_simp, (pt_c Dx Dy _).mono ?_⟩
    rintro e w' ⟨rfl, hb⟩
    exact ⟨_, rfl, hb, rfl⟩
  · intro a u _ hf
    simp [facts, Need.fact, Ent.val, Act.eval] at hf
    go_simp
  · intro a u _ _
    go_simp
  · intro a u _ _
    go_simp
  intro u lw hw wx hK hE hI hD
  simp [allE, allPut, Act.put, Act.eval, Ent.filledP, Ent.made, Ent.val] at hE
  obtain ⟨u0, u1, u2, u3, u4, u5, u6, u7, u8, u9, ⟨b10, u10, l10, h10, -⟩, ⟨b11, u11, l11, h11, -⟩, ⟨c12, v12, g12⟩, ⟨c13, v13, g13⟩⟩ := hE
  obtain rfl : b10 = c12 := by rw [u10] at v12; simpa using v12
  obtain rfl : b11 = c13 := by rw [u11] at v13; simpa using v13
  simp only [allPut, Act.put, u0, u1, u2, u3, u4, u5, u6, u7, u8, u9, u10, u11]
  clear u0 u1 u2 u3 u4 u5 u6 u7 u8 u9 u10 u11 v12 v13
  have i10 := hI 10 (by simp)
  have i11 := hI 11 (by simp)
  simp at i10 i11
  have st1 := ((st0.keep hK (fun i x _ => by simp) (fun x hx => by simp at hx)).add g13).add g12
  have n10 : w.heap.size + 1 + 1 + 1 + 1 + 1 ≤ b10 := by omega
  have n11 : w.heap.size + 1 + 1 + 1 + 1 + 1 ≤ b11 := by omega
  clear hK hI hD g12 g13 l10 h10 l11 h11 i10 i11 st0 za0 za1 zb0 zb1 zc0 zc1 zd0 zd1
  have zs0 := st1.cell 0 rfl 0
  have zs1 := st1.cell 0 rfl 1
  have zs2 := st1.cell 0 rfl 2
  have zs3 := st1.cell 0 rfl 3
  have zt0 := st1.cell 1 rfl 0
  have zt1 := st1.cell 1 rfl 1
  have zt2 := st1.cell 1 rfl 2
  have zt3 := st1.cell 1 rfl 3
  have zc0 := st1.cell 4 rfl 0
  have zc1 := st1.cell 4 rfl 1
  simp only [List.getElem?_toArray, List.getElem?_cons_zero, List.getElem?_cons_succ] at zs0 zs1 zs2 zs3 zt0 zt1 zt2 zt3 zc0 zc1
  simp only [List.setIfInBounds_toArray, List.set_cons_zero, List.set_cons_succ]
  go_wp2_with (with_reducible refine PF.stop_region0 ?_)
  refine ⟨?_⟩
  refine wp_region_K [w.heap.size + 1 + 1 + 1 + 1] [.val (.agg #[fl (fb Ax), fl (fb Ay), fl (fb Bx), fl (fb By)]),
      .val (.agg #[.int .i64 Cx, .int .i64 Cy]),
      .val (.agg #[fl (fb Cx), fl (fb Cy)]),
      .val (.bool q1),
      .val (.agg #[fl (fb Ax), fl (fb Ay), fl (fb Bx), fl (fb By)]),
      .val (.agg #[.int .i64 Cx, .int .i64 Cy]),
      .val (.agg #[fl (fb Cx), fl (fb Cy)]),
      .val (.bool q3),
      .val (.agg #[fl (fb Ax), fl (fb Ay), fl (fb Bx), fl (fb By)]),
      .val (.agg #[fl (fb Cx), fl (fb Cy), fl (fb Dx), fl (fb Dy)]),
      .val (.bool (q1 && q2)),
      .val (.agg #[fl (fb Ax), fl (fb Ay), fl (fb Bx), fl (fb By)]),
      .val (.agg #[fl (fb Cx), fl (fb Cy), fl (fb Dx), fl (fb Dy)]),
      .of (fun v => SaA Ax Ay Bx By Cx Cy Dx Dy v),
      .val (.agg #[fl (fb Ax), fl (fb Ay), fl (fb Bx), fl (fb By)]),
      .val (.agg #[k0, k1, k2, k3]),
      .val (.agg #[.int .i64 (min Ax Bx), .int .i64 (min Ay By), .int .i64 (max Ax Bx), .int .i64 (max Ay By)]),
      .of (fun v => ∃ cs, v = .agg cs ∧ SaB q1 q2 q3 Ax Ay Bx By Cx Cy Dx Dy cs),
      .turn (w.heap.size + 1 + 1 + 1 + 1) #[.bool false, .bool false, .bool false, .bool false, .int .i64 0, .int .i64 0, .int .i64 0, .int .i64 0] (fun cs => SaB q1 q2 q3 Ax Ay Bx By Cx Cy Dx Dy cs) 61]
    [[.ini 9], [.ini 6], [.frm 1 22], [.frm 0 21, .frm 2 23], [.ini 9], [.ini 6], [.frm 5 26], [.frm 4 25, .frm 6 27], [.ini 9], [.ini 10], [.frm 8 29, .frm 9 30], [.ini 9], [.ini 10], [.frm 11 32, .frm 12 33], [.ini 9], [.frm 14 35], [.frm 15 36], [.frm 3 24, .frm 7 28, .frm 10 31, .frm 13 34, .frm 16 37], [.ini 8, .frm 17 38, .til 18]]
    mixed (by kernel_rfl) (by kernel_rfl) (allPre_of ⟨trivial, trivial, trivial, trivial, trivial, trivial, trivial, trivial, trivial, trivial, trivial, trivial, trivial, trivial, trivial, trivial, trivial, trivial, st1.known 2 _ rfl, trivial⟩)
    ⟨OpOk.quiet rfl ?_,
      OpOk.quiet rfl ?_,
      OpOk.call rfl ?_,
      OpOk.call rfl ?_,
      OpOk.quiet rfl ?_,
      OpOk.quiet rfl ?_,
      OpOk.call rfl ?_,
      OpOk.call rfl ?_,
      OpOk.quiet rfl ?_,
      OpOk.quiet rfl ?_,
      OpOk.call rfl ?_,
      OpOk.quiet rfl ?_,
      OpOk.quiet rfl ?_,
      OpOk.call rfl ?_,
      OpOk.quiet rfl ?_,
      OpOk.call rfl ?_,
      OpOk.call rfl ?_,
      OpOk.adds rfl ?_,
      OpOk.turn rfl (st1.lt 2 rfl) (by kernel_rfl) (oldFree_of ⟨.inr (fun h => (nomatch h)), .inr (fun h => (nomatch h)), .inr (fun h => (nomatch h)), .inr (fun h => (nomatch h)), .inr (fun h => (nomatch h)), .inr (fun h => (nomatch h)), .inr (fun h => (nomatch h)), .inr (fun h => (nomatch h)), .inr (fun h => (nomatch h)), .inr (fun h => (nomatch h)), .inr (fun h => (nomatch h)), .inr (fun h => (nomatch h)), .inr (fun h => (nomatch h)), .inr (fun h => (nomatch h)), .inr (fun h => (nomatch h)), .inr (fun h => (nomatch h)), .inr (fun h => (nomatch h)), .inr (fun h => (nomatch h)), .inl rfl, trivial⟩) (fun a w_ hG hf => by
          obtain ⟨f1, ⟨_, _, _, hv, ans, rfl, ho⟩, f3, -⟩ := hf
          have f1' : a.eval (.tmp 8) = .pointer (some ⟨w.heap.size + 1 + 1 + 1 + 1, 0, none⟩) := f1
          have f3' : w_.heap[w.heap.size + 1 + 1 + 1 + 1]? = some (.cells #[.bool false, .bool false, .bool false, .bool false, .int .i64 0, .int .i64 0, .int .i64 0, .int .i64 0] 61 (0, 0)) := f3
          have hv' : a.eval (.tmp 38) = .agg #[.bool q1, .bool q3, .bool (q1 && q2), .bool ans, .int .i64 (min Ax Bx), .int .i64 (min Ay By), .int .i64 (max Ax Bx), .int .i64 (max Ay By)] := hv
          exact ⟨_, _, _, f3', run_store_row 61 (.tmp 8) (.tmp 38) rfl (w.heap.size + 1 + 1 + 1 + 1) _ f1' hv' 61 _ f3' (by kernel_rfl) rfl (by simp [Value.oneCell']), .inl rfl, ⟨ans, rfl, ho⟩⟩) (fun _ _ h => Keep.setRow h (.inr (by simp))), trivial⟩ ?_
  · intro a u hG hf
    simp [facts, Need.fact, Act.eval] at hf
    have hc := True.intro
    have ys0 := (hG.cell (p := ⟨b10, 0, none⟩) (st1.lt 0 rfl) (by simp <;> omega)).trans zs0
    have ys1 := (hG.cell (p := ⟨b10, 1, none⟩) (st1.lt 0 rfl) (by simp <;> omega)).trans zs1
    have ys2 := (hG.cell (p := ⟨b10, 2, none⟩) (st1.lt 0 rfl) (by simp <;> omega)).trans zs2
    have ys3 := (hG.cell (p := ⟨b10, 3, none⟩) (st1.lt 0 rfl) (by simp <;> omega)).trans zs3
    have yt0 := (hG.cell (p := ⟨b11, 0, none⟩) (st1.lt 1 rfl) (by simp <;> omega)).trans zt0
    have yt1 := (hG.cell (p := ⟨b11, 1, none⟩) (st1.lt 1 rfl) (by simp <;> omega)).trans zt1
    have yt2 := (hG.cell (p := ⟨b11, 2, none⟩) (st1.lt 1 rfl) (by simp <;> omega)).trans zt2
    have yt3 := (hG.cell (p := ⟨b11, 3, none⟩) (st1.lt 1 rfl) (by simp <;> omega)).trans zt3
    have yc0 := (hG.cell (p := ⟨w.heap.size + 1 + 1, 0, none⟩) (st1.lt 4 rfl) (by simp <;> omega)).trans zc0
    have yc1 := (hG.cell (p := ⟨w.heap.size + 1 + 1, 1, none⟩) (st1.lt 4 rfl) (by simp <;> omega)).trans zc1

    go_simp
  · intro a u hG hf
    simp [facts, Need.fact, Act.eval] at hf
    have hc := True.intro
    have ys0 := (hG.cell (p := ⟨b10, 0, none⟩) (st1.lt 0 rfl) (by simp <;> omega)).trans zs0
    have ys1 := (hG.cell (p := ⟨b10, 1, none⟩) (st1.lt 0 rfl) (by simp <;> omega)).trans zs1
    have ys2 := (hG.cell (p := ⟨b10, 2, none⟩) (st1.lt 0 rfl) (by simp <;> omega)).trans zs2
    have ys3 := (hG.cell (p := ⟨b10, 3, none⟩) (st1.lt 0 rfl) (by simp <;> omega)).trans zs3
    have yt0 := (hG.cell (p := ⟨b11, 0, none⟩) (st1.lt 1 rfl) (by simp <;> omega)).trans zt0
    have yt1 := (hG.cell (p := ⟨b11, 1, none⟩) (st1.lt 1 rfl) (by simp <;> omega)).trans zt1
    have yt2 := (hG.cell (p := ⟨b11, 2, none⟩) (st1.lt 1 rfl) (by simp <;> omega)).trans zt2
    have yt3 := (hG.cell (p := ⟨b11, 3, none⟩) (st1.lt 1 rfl) (by simp <;> omega)).trans zt3
    have yc0 := (hG.cell (p := ⟨w.heap.size + 1 + 1, 0, none⟩) (st1.lt 4 rfl) (by simp <;> omega)).trans zc0
    have yc1 := (hG.cell (p := ⟨w.heap.size + 1 + 1, 1, none⟩) (st1.lt 4 rfl) (by simp <;> omega)).trans zc1

    go_simp
  · intro a u _ hf
    simp [facts, Need.fact, Ent.val, Act.eval] at hf
    refine ⟨_, _, by go_simp, (pt_c Cx Cy _).mono ?_⟩
    rintro e w' ⟨rfl, hb⟩
    exact ⟨_, rfl, hb, rfl⟩
  · intro a u _ hf
    simp [facts, Need.fact, Ent.val, Act.eval] at hf
    refine ⟨_, _, by go_simp, (hcn _).mono ?_⟩
    rintro e w' ⟨rfl, hb⟩
    exact ⟨_, rfl, hb, rfl⟩
  · intro a u hG hf
    simp [facts, Need.fact, Act.eval] at hf
    have hc := True.intro
    have ys0 := (hG.cell (p := ⟨b10, 0, none⟩) (st1.lt 0 rfl) (by simp <;> omega)).trans zs0
    have ys1 := (hG.cell (p := ⟨b10, 1, none⟩) (st1.lt 0 rfl) (by simp <;> omega)).trans zs1
    have ys2 := (hG.cell (p := ⟨b10, 2, none⟩) (st1.lt 0 rfl) (by simp <;> omega)).trans zs2
    have ys3 := (hG.cell (p := ⟨b10, 3, none⟩) (st1.lt 0 rfl) (by simp <;> omega)).trans zs3
    have yt0 := (hG.cell (p := ⟨b11, 0, none⟩) (st1.lt 1 rfl) (by simp <;> omega)).trans zt0
    have yt1 := (hG.cell (p := ⟨b11, 1, none⟩) (st1.lt 1 rfl) (by simp <;> omega)).trans zt1
    have yt2 := (hG.cell (p := ⟨b11, 2, none⟩) (st1.lt 1 rfl) (by simp <;> omega)).trans zt2
    have yt3 := (hG.cell (p := ⟨b11, 3, none⟩) (st1.lt 1 rfl) (by simp <;> omega)).trans zt3
    have yc0 := (hG.cell (p := ⟨w.heap.size + 1 + 1, 0, none⟩) (st1.lt 4 rfl) (by simp <;> omega)).trans zc0
    have yc1 := (hG.cell (p := ⟨w.heap.size + 1 + 1, 1, none⟩) (st1.lt 4 rfl) (by simp <;> omega)).trans zc1

    go_simp
  · intro a u hG hf
    simp [facts, Need.fact, Act.eval] at hf
    have hc := True.intro
    have ys0 := (hG.cell (p := ⟨b10, 0, none⟩) (st1.lt 0 rfl) (by simp <;> omega)).trans zs0
    have ys1 := (hG.cell (p := ⟨b10, 1, none⟩) (st1.lt 0 rfl) (by simp <;> omega)).trans zs1
    have ys2 := (hG.cell (p := ⟨b10, 2, none⟩) (st1.lt 0 rfl) (by simp <;> omega)).trans zs2
    have ys3 := (hG.cell (p := ⟨b10, 3, none⟩) (st1.lt 0 rfl) (by simp <;> omega)).trans zs3
    have yt0 := (hG.cell (p := ⟨b11, 0, none⟩) (st1.lt 1 rfl) (by simp <;> omega)).trans zt0
    have yt1 := (hG.cell (p := ⟨b11, 1, none⟩) (st1.lt 1 rfl) (by simp <;> omega)).trans zt1
    have yt2 := (hG.cell (p := ⟨b11, 2, none⟩) (st1.lt 1 rfl) (by simp <;> omega)).trans zt2
    have yt3 := (hG.cell (p := ⟨b11, 3, none⟩) (st1.lt 1 rfl) (by simp <;> omega)).trans zt3
    have yc0 := (hG.cell (p := ⟨w.heap.size + 1 + 1, 0, none⟩) (st1.lt 4 rfl) (by simp <;> omega)).trans zc0
    have yc1 := (hG.cell (p := ⟨w.heap.size + 1 + 1, 1, none⟩) (st1.lt 4 rfl) (by simp <;> omega)).trans zc1

    go_simp
  · intro a u _ hf
    simp [facts, Need.fact, Ent.val, Act.eval] at hf
    refine ⟨_, _, by go_simp, (pt_c Cx Cy _).mono ?_⟩
    rintro e w' ⟨rfl, hb⟩
    exact ⟨_, rfl, hb, rfl⟩
  · intro a u _ hf
    simp [facts, Need.fact, Ent.val, Act.eval] at hf
    refine ⟨_, _, by go_simp, (hcl _).mono ?_⟩
    rintro e w' ⟨rfl, hb⟩
    exact ⟨_, rfl, hb, rfl⟩
  · intro a u hG hf
    simp [facts, Need.fact, Act.eval] at hf
    have hc := True.intro
    have ys0 := (hG.cell (p := ⟨b10, 0, none⟩) (st1.lt 0 rfl) (by simp <;> omega)).trans zs0
    have ys1 := (hG.cell (p := ⟨b10, 1, none⟩) (st1.lt 0 rfl) (by simp <;> omega)).trans zs1
    have ys2 := (hG.cell (p := ⟨b10, 2, none⟩) (st1.lt 0 rfl) (by simp <;> omega)).trans zs2
    have ys3 := (hG.cell (p := ⟨b10, 3, none⟩) (st1.lt 0 rfl) (by simp <;> omega)).trans zs3
    have yt0 := (hG.cell (p := ⟨b11, 0, none⟩) (st1.lt 1 rfl) (by simp <;> omega)).trans zt0
    have yt1 := (hG.cell (p := ⟨b11, 1, none⟩) (st1.lt 1 rfl) (by simp <;> omega)).trans zt1
    have yt2 := (hG.cell (p := ⟨b11, 2, none⟩) (st1.lt 1 rfl) (by simp <;> omega)).trans zt2
    have yt3 := (hG.cell (p := ⟨b11, 3, none⟩) (st1.lt 1 rfl) (by simp <;> omega)).trans zt3
    have yc0 := (hG.cell (p := ⟨w.heap.size + 1 + 1, 0, none⟩) (st1.lt 4 rfl) (by simp <;> omega)).trans zc0
    have yc1 := (hG.cell (p := ⟨w.heap.size + 1 + 1, 1, none⟩) (st1.lt 4 rfl) (by simp <;> omega)).trans zc1

    go_simp
  · intro a u hG hf
    simp [facts, Need.fact, Act.eval] at hf
    have hc := True.intro
    have ys0 := (hG.cell (p := ⟨b10, 0, none⟩) (st1.lt 0 rfl) (by simp <;> omega)).trans zs0
    have ys1 := (hG.cell (p := ⟨b10, 1, none⟩) (st1.lt 0 rfl) (by simp <;> omega)).trans zs1
    have ys2 := (hG.cell (p := ⟨b10, 2, none⟩) (st1.lt 0 rfl) (by simp <;> omega)).trans zs2
    have ys3 := (hG.cell (p := ⟨b10, 3, none⟩) (st1.lt 0 rfl) (by simp <;> omega)).trans zs3
    have yt0 := (hG.cell (p := ⟨b11, 0, none⟩) (st1.lt 1 rfl) (by simp <;> omega)).trans zt0
    have yt1 := (hG.cell (p := ⟨b11, 1, none⟩) (st1.lt 1 rfl) (by simp <;> omega)).trans zt1
    have yt2 := (hG.cell (p := ⟨b11, 2, none⟩) (st1.lt 1 rfl) (by simp <;> omega)).trans zt2
    have yt3 := (hG.cell (p := ⟨b11, 3, none⟩) (st1.lt 1 rfl) (by simp <;> omega)).trans zt3
    have yc0 := (hG.cell (p := ⟨w.heap.size + 1 + 1, 0, none⟩) (st1.lt 4 rfl) (by simp <;> omega)).trans zc0
    have yc1 := (hG.cell (p := ⟨w.heap.size + 1 + 1, 1, none⟩) (st1.lt 4 rfl) (by simp <;> omega)).trans zc1

    go_simp
  · intro a u _ hf
    simp [facts, Need.fact, Ent.val, Act.eval] at hf
    refine ⟨_, _, by go_simp, (hcs _).mono ?_⟩
    rintro e w' ⟨rfl, hb⟩
    exact ⟨_, rfl, hb, rfl⟩
  · intro a u hG hf
    simp [facts, Need.fact, Act.eval] at hf
    have hc := True.intro
    have ys0 := (hG.cell (p := ⟨b10, 0, none⟩) (st1.lt 0 rfl) (by simp <;> omega)).trans zs0
    have ys1 := (hG.cell (p := ⟨b10, 1, none⟩) (st1.lt 0 rfl) (by simp <;> omega)).trans zs1
    have ys2 := (hG.cell (p := ⟨b10, 2, none⟩) (st1.lt 0 rfl) (by simp <;> omega)).trans zs2
    have ys3 := (hG.cell (p := ⟨b10, 3, none⟩) (st1.lt 0 rfl) (by simp <;> omega)).trans zs3
    have yt0 := (hG.cell (p := ⟨b11, 0, none⟩) (st1.lt 1 rfl) (by simp <;> omega)).trans zt0
    have yt1 := (hG.cell (p := ⟨b11, 1, none⟩) (st1.lt 1 rfl) (by simp <;> omega)).trans zt1
    have yt2 := (hG.cell (p := ⟨b11, 2, none⟩) (st1.lt 1 rfl) (by simp <;> omega)).trans zt2
    have yt3 := (hG.cell (p := ⟨b11, 3, none⟩) (st1.lt 1 rfl) (by simp <;> omega)).trans zt3
    have yc0 := (hG.cell (p := ⟨w.heap.size + 1 + 1, 0, none⟩) (st1.lt 4 rfl) (by simp <;> omega)).trans zc0
    have yc1 := (hG.cell (p := ⟨w.heap.size + 1 + 1, 1, none⟩) (st1.lt 4 rfl) (by simp <;> omega)).trans zc1

    go_simp
  · intro a u hG hf
    simp [facts, Need.fact, Act.eval] at hf
    have hc := True.intro
    have ys0 := (hG.cell (p := ⟨b10, 0, none⟩) (st1.lt 0 rfl) (by simp <;> omega)).trans zs0
    have ys1 := (hG.cell (p := ⟨b10, 1, none⟩) (st1.lt 0 rfl) (by simp <;> omega)).trans zs1
    have ys2 := (hG.cell (p := ⟨b10, 2, none⟩) (st1.lt 0 rfl) (by simp <;> omega)).trans zs2
    have ys3 := (hG.cell (p := ⟨b10, 3, none⟩) (st1.lt 0 rfl) (by simp <;> omega)).trans zs3
    have yt0 := (hG.cell (p := ⟨b11, 0, none⟩) (st1.lt 1 rfl) (by simp <;> omega)).trans zt0
    have yt1 := (hG.cell (p := ⟨b11, 1, none⟩) (st1.lt 1 rfl) (by simp <;> omega)).trans zt1
    have yt2 := (hG.cell (p := ⟨b11, 2, none⟩) (st1.lt 1 rfl) (by simp <;> omega)).trans zt2
    have yt3 := (hG.cell (p := ⟨b11, 3, none⟩) (st1.lt 1 rfl) (by simp <;> omega)).trans zt3
    have yc0 := (hG.cell (p := ⟨w.heap.size + 1 + 1, 0, none⟩) (st1.lt 4 rfl) (by simp <;> omega)).trans zc0
    have yc1 := (hG.cell (p := ⟨w.heap.size + 1 + 1, 1, none⟩) (st1.lt 4 rfl) (by simp <;> omega)).trans zc1

    go_simp
  · intro a u hG hf
    simp [facts, Need.fact, Ent.val, Act.eval] at hf
    refine ⟨_, _, by go_simp, (his _).mono ?_⟩
    rintro e w' ⟨ans, rfl, ha, hb⟩
    exact ⟨_, rfl, hb, ans, rfl, ha⟩
  · intro a u hG hf
    simp [facts, Need.fact, Act.eval] at hf
    have hc := True.intro
    have ys0 := (hG.cell (p := ⟨b10, 0, none⟩) (st1.lt 0 rfl) (by simp <;> omega)).trans zs0
    have ys1 := (hG.cell (p := ⟨b10, 1, none⟩) (st1.lt 0 rfl) (by simp <;> omega)).trans zs1
    have ys2 := (hG.cell (p := ⟨b10, 2, none⟩) (st1.lt 0 rfl) (by simp <;> omega)).trans zs2
    have ys3 := (hG.cell (p := ⟨b10, 3, none⟩) (st1.lt 0 rfl) (by simp <;> omega)).trans zs3
    have yt0 := (hG.cell (p := ⟨b11, 0, none⟩) (st1.lt 1 rfl) (by simp <;> omega)).trans zt0
    have yt1 := (hG.cell (p := ⟨b11, 1, none⟩) (st1.lt 1 rfl) (by simp <;> omega)).trans zt1
    have yt2 := (hG.cell (p := ⟨b11, 2, none⟩) (st1.lt 1 rfl) (by simp <;> omega)).trans zt2
    have yt3 := (hG.cell (p := ⟨b11, 3, none⟩) (st1.lt 1 rfl) (by simp <;> omega)).trans zt3
    have yc0 := (hG.cell (p := ⟨w.heap.size + 1 + 1, 0, none⟩) (st1.lt 4 rfl) (by simp <;> omega)).trans zc0
    have yc1 := (hG.cell (p := ⟨w.heap.size + 1 + 1, 1, none⟩) (st1.lt 4 rfl) (by simp <;> omega)).trans zc1

    go_simp
  · intro a u _ hf
    simp [facts, Need.fact, Ent.val, Act.eval] at hf
    refine ⟨_, _, by go_simp, (hsr _).mono ?_⟩
    rintro e w' ⟨rfl, hb⟩
    exact ⟨_, rfl, hb, rfl⟩
  · intro a u _ hf
    simp [facts, Need.fact, Ent.val, Act.eval] at hf
    refine ⟨_, _, by go_simp, (hco _).mono ?_⟩
    rintro e w' ⟨rfl, hb⟩
    exact ⟨_, rfl, hb, rfl⟩
  · intro a u hG hf
    obtain ⟨⟨_, _, f1⟩, ⟨_, _, f2⟩, ⟨_, _, f3⟩, ⟨_, _, ans, f4, ha⟩, ⟨_, _, f5⟩, -⟩ := hf
    replace f1 : a.eval (.tmp 24) = .bool q1 := f1
    replace f2 : a.eval (.tmp 28) = .bool q3 := f2
    replace f3 : a.eval (.tmp 31) = .bool (q1 && q2) := f3
    replace f5 : a.eval (.tmp 37) = .agg #[.int .i64 (min Ax Bx), .int .i64 (min Ay By), .int .i64 (max Ax Bx), .int .i64 (max Ay By)] := f5
    simp [Act.eval] at f1 f2 f3 f4 f5
    exact ⟨_, _, by go_simp, Ext.refl _, _, rfl, ans, rfl, ha⟩
  intro u lw hw wy hK hE hI hD
  simp [allE, Ent.of, Ent.turn, Ent.val] at hE
  obtain ⟨u0, u1, u2, u3, u4, u5, u6, u7, u8, u9, u10, u11, u12, _, u14, u15, u16, _, ⟨cs18, ⟨ans, rfl, ho⟩, g18⟩⟩ := hE
  simp only [allPut, Act.put, u0, u1, u2, u3, u4, u5, u6, u7, u8, u9, u10, u11, u12, u14, u15, u16]
  clear u0 u1 u2 u3 u4 u5 u6 u7 u8 u9 u10 u11 u12 u14 u15 u16
  have q10 := cellAt g18 0
  have q11 := cellAt g18 1
  have q12 := cellAt g18 2
  have q13 := cellAt g18 3
  have q14 := cellAt g18 4
  have q15 := cellAt g18 5
  have q16 := cellAt g18 6
  have q17 := cellAt g18 7
  simp only [List.getElem?_toArray, List.getElem?_cons_zero, List.getElem?_cons_succ] at q10 q11 q12 q13 q14 q15 q16 q17
  have hB := Keep.belowX (B := w.heap.size) hK st1.hb st1.hb.size (by simp; omega)
  clear hK hI hD g18 zs0 zs1 zs2 zs3 zt0 zt1 zt2 zt3 zc0 zc1 st1
  generalize u (0 + 1 + 1 + 1 + 1 + 1 + 1 + 1 + 1 + 1 + 1 + 1 + 1 + 1) = e13 at *
  generalize u (0 + 1 + 1 + 1 + 1 + 1 + 1 + 1 + 1 + 1 + 1 + 1 + 1 + 1 + 1 + 1 + 1 + 1) = e17 at *
  try simp only [List.setIfInBounds_toArray, List.set_cons_zero, List.set_cons_succ]
  go_wp2
  exact bodyPost_ret (v := .agg #[.bool q1, .bool q3, .bool (q1 && q2), .bool ans, .int .i64 (min Ax Bx), .int .i64 (min Ay By), .int .i64 (max Ax Bx), .int .i64 (max Ay By)]) (by simp [results, Tryz.results26, go_sem, q10, q11, q12, q13, q14, q15, q16, q17]) rfl (SaskP.mk ans ho (by subst hq1 hq2 hq3; rfl) hB)
def qq (l m : List (Int × Int)) (i k : Nat) : Bool := meets (at' l i).1 (at' l i).2 (nxp l i).1 (nxp l i).2 (at' m k).1 (at' m k).2 (nxp m k).1 (nxp m k).2
def oo (l m : List (Int × Int)) (i k : Nat) : Bool := ovl (at' l i).1 (at' l i).2 (nxp l i).1 (nxp l i).2 (at' m k).1 (at' m k).2 (nxp m k).1 (nxp m k).2
/-- small points -/
def Bn1 (p : Int × Int) : Prop := p.1.natAbs ≤ 1024 ∧ p.2.natAbs ≤ 1024
theorem at_bn1 {l : List (Int × Int)} (h : ∀ p ∈ l, Bn1 p) (k : Nat) : Bn1 (at' l k) := by
  rcases Nat.lt_or_ge k l.length with h1 | h1
  · exact h _ (List.mem_of_getElem? (at_get h1))
  · unfold at' Bn1; simp [List.getD, List.getElem?_eq_none h1]
theorem nx_bn1 {l : List (Int × Int)} (h : ∀ p ∈ l, Bn1 p) (k : Nat) : Bn1 (nxp l k) := by
  unfold nxp; split <;> exact at_bn1 h _
/-- SegmentAsk of two segments -/
theorem sask_q {l m : List (Int × Int)} (hl : ∀ p ∈ l, Bn1 p) (hm : ∀ p ∈ m, Bn1 p) {i k : Nat} (h : oo l m i k = false) : ∃ (r0 r1 r2 : Bool) (z0 z1 z2 z3 : Int), ∀ u : World,
    Calls Tryz.prog 26 #[.agg #[.int .i64 (at' l i).1, .int .i64 (at' l i).2], .agg #[.int .i64 (nxp l i).1, .int .i64 (nxp l i).2], .agg #[.int .i64 (at' m k).1, .int .i64 (at' m k).2], .agg #[.int .i64 (nxp m k).1, .int .i64 (nxp m k).2]] u
      fun e w' => e = .returned (.agg #[.bool r0, .bool r1, .bool r2, .bool (qq l m i k), .int .i64 z0, .int .i64 z1, .int .i64 z2, .int .i64 z3]) ∧ Below u.heap.size u w' := by
  have a1 := at_bn1 hl i
  have a2 := nx_bn1 hl i
  have a3 := at_bn1 hm k
  have a4 := nx_bn1 hm k
  unfold Bn1 at a1 a2 a3 a4
  refine ⟨rcOn (at' l i).1 (at' l i).2 (nxp l i).1 (nxp l i).2 (at' m k).1 (at' m k).2, decide (side (at' l i).1 (at' l i).2 (nxp l i).1 (nxp l i).2 (at' m k).1 (at' m k).2 = 0), rcOn (at' l i).1 (at' l i).2 (nxp l i).1 (nxp l i).2 (at' m k).1 (at' m k).2 && rcOn (at' l i).1 (at' l i).2 (nxp l i).1 (nxp l i).2 (nxp m k).1 (nxp m k).2, min (at' l i).1 (nxp l i).1, min (at' l i).2 (nxp l i).2, max (at' l i).1 (nxp l i).1, max (at' l i).2 (nxp l i).2, fun u => (sask_c _ _ _ _ _ _ _ _ (by omega) (by omega) u).mono ?_⟩
  rintro e w' ⟨ans, rfl, h1, hb⟩
  rw [h1 h]
  exact ⟨rfl, hb⟩
theorem ovl_q {l m : List (Int × Int)} (hl : ∀ p ∈ l, Bn1 p) (hm : ∀ p ∈ m, Bn1 p) (i k : Nat) (u : World) :
    Calls Tryz.prog 25 #[.agg #[.int .i64 (at' l i).1, .int .i64 (at' l i).2], .agg #[.int .i64 (nxp l i).1, .int .i64 (nxp l i).2], .agg #[.int .i64 (at' m k).1, .int .i64 (at' m k).2], .agg #[.int .i64 (nxp m k).1, .int .i64 (nxp m k).2]] u
      fun e w' => e = .returned (.bool (oo l m i k)) ∧ Below u.heap.size u w' := by
  have a1 := at_bn1 hl i
  have a2 := nx_bn1 hl i
  have a3 := at_bn1 hm k
  have a4 := nx_bn1 hm k
  unfold Bn1 at a1 a2 a3 a4
  exact ovl_c _ _ _ _ _ _ _ _ (by omega) (by omega) u
theorem _root_.PF.SlP.allR {w : World} {v : Value} {l : List (Int × Int)} (h : SlP w v l) (h0 : 0 < l.length) : ∃ b off c, v = .slice (some ⟨b, off, none⟩) l.length c ∧ b < w.heap.size ∧ ∀ j, j < l.length → w.cell? ⟨b, off + j * 2, none⟩ = some (.int .i64 (at' l j).1) ∧ w.cell? ⟨b, off + j * 2 + 1, none⟩ = some (.int .i64 (at' l j).2) := by
  obtain ⟨A, c, hv, hk⟩ := h
  obtain ⟨b, off, hA, h1, -⟩ := hk 0 (at' l 0) (at_get h0)
  subst hA
  refine ⟨b, off, c, hv, World.block_lt_of_cell? w _ h1, fun j hj => ?_⟩
  obtain ⟨b', off', hA2, h3, h4⟩ := hk j (at' l j) (at_get hj)
  cases hA2
  exact ⟨h3, h4⟩
end Go.Proofs.YtbfanhdofopnnaaGreat
