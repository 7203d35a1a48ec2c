import Derived.Test.YtlpibeloedfbdaaGreatSl
import Derived.Test.YtlpibeloedfbdaaGreatPlane
import Derived.Test.YtlpibeloedfbdaaGreatGc
import Derived.Test.YtlpibeloedfbdaaGreatQR
import Derived.Test.YtlpibeloedfbdaaGreatQW
import Derived.Test.YtlpibeloedfbdaaGreatHp
set_option linter.unusedSimpArgs false
set_option linter.unusedVariables false
/-! The scene's own segments (spec.geoSide, geoWithin, GeoOn, geoSign, GeoMeet, GeoLeft): what they say. -/
namespace PF
def gsd (a b p : Int × Int) : Int := (b.1 - a.1) * (p.2 - a.2) - (b.2 - a.2) * (p.1 - a.1)
def gwi (a b p : Int × Int) : Bool := decide (min a.1 b.1 ≤ p.1 ∧ p.1 ≤ max a.1 b.1 ∧ min a.2 b.2 ≤ p.2 ∧ p.2 ≤ max a.2 b.2)
def gon (a b p : Int × Int) : Bool := gwi a b p && decide (gsd a b p = 0)
def gsgn (n : Int) : Int := if 0 < n then 1 else if n < 0 then -1 else 0
def gmt (a b c d : Int × Int) : Bool := gon a b c || gon a b d || gon c d a || gon c d b || (decide (gsgn (gsd a b c) * gsgn (gsd a b d) < 0) && decide (gsgn (gsd c d a) * gsgn (gsd c d b) < 0))
def glf (a b p : Int × Int) : Bool := if b.2 < a.2 then decide (b.2 ≤ p.2 ∧ p.2 < a.2 ∧ 0 < gsd b a p) else decide (a.2 ≤ p.2 ∧ p.2 < b.2 ∧ 0 < gsd a b p)
theorem gsd_sw (a b p : Int × Int) : gsd b a p = -gsd a b p := by unfold gsd; grind
theorem gon_rc (a b p : Int × Int) : gon a b p = rcOn a.1 a.2 b.1 b.2 p.1 p.2 := by
  unfold gon gwi rcOn gsd
  rw [Bool.eq_iff_iff, Bool.and_eq_true, decide_eq_true_iff, decide_eq_true_iff, decide_eq_true_iff, Int.mul_comm (p.1 - a.1), Int.mul_comm (p.2 - a.2)]
  omega
theorem glf_rc (a b p : Int × Int) : glf a b p = rcIn a.1 a.2 b.1 b.2 p.1 p.2 := by
  unfold glf rcIn
  rw [gsd_sw a b]
  unfold gsd
  rw [Int.mul_comm (b.1 - a.1)]
  split <;> apply decide_eq_decide.2 <;> omega
end PF
set_option linter.unusedSimpArgs false
set_option linter.unusedVariables false
/-! Plane geometry of segments: half planes, and the side that a segment keeps. -/
namespace PF
section
variable {P Q a b p : Int × Int}
theorem mpp {m n : Int} (hm : 0 < m) (hn : 0 < n) : 0 < m * n := Int.mul_pos hm hn
theorem mqq {m n : Int} (hm : 0 ≤ m) (hn : 0 ≤ n) : 0 ≤ m * n := Int.mul_nonneg hm hn
theorem mpn {m n : Int} (hm : 0 < m) (hn : n < 0) : m * n < 0 := Int.mul_neg_of_pos_of_neg hm hn
theorem mqr {m n : Int} (hm : 0 ≤ m) (hn : n ≤ 0) : m * n ≤ 0 := Int.mul_nonpos_of_nonneg_of_nonpos hm hn
theorem mrq {m n : Int} (hm : m ≤ 0) (hn : 0 ≤ n) : m * n ≤ 0 := Int.mul_nonpos_of_nonpos_of_nonneg hm hn
theorem mrr {m n : Int} (hm : m ≤ 0) (hn : n ≤ 0) : 0 ≤ m * n := Int.mul_nonneg_of_nonpos_of_nonpos hm hn
theorem sgn_of_mul_pos {m n : Int} (hm : 0 < m) (h : 0 ≤ m * n) : 0 ≤ n := by
  rcases Int.lt_or_le n 0 with g | g
  · have := mpn hm g; omega
  · exact g
theorem gsd_swap (a b p : Int × Int) : gsd b a p = -gsd a b p := by unfold gsd; grind
theorem gsd_a (a b : Int × Int) : gsd a b a = 0 := by unfold gsd; grind
theorem gsd_b (a b : Int × Int) : gsd a b b = 0 := by unfold gsd; grind
theorem gon_iff : gon a b p = true ↔ (min a.1 b.1 ≤ p.1 ∧ p.1 ≤ max a.1 b.1 ∧ min a.2 b.2 ≤ p.2 ∧ p.2 ≤ max a.2 b.2) ∧ gsd a b p = 0 := by
  unfold gon gwi; rw [Bool.and_eq_true, decide_eq_true_iff, decide_eq_true_iff]
theorem gon_a (a b : Int × Int) : gon a b a = true := gon_iff.2 ⟨by omega, gsd_a a b⟩
theorem gon_b (a b : Int × Int) : gon a b b = true := gon_iff.2 ⟨by omega, gsd_b a b⟩
theorem glf_swap (a b p : Int × Int) : glf b a p = glf a b p := by
  unfold glf
  by_cases h : b.2 < a.2
  · rw [if_pos h, if_neg (by omega)]
  · rw [if_neg h]
    by_cases h2 : a.2 < b.2
    · rw [if_pos h2]
    · rw [if_neg h2]
      apply decide_eq_decide.2; omega
theorem glf_up (h : a.2 ≤ b.2) : glf a b p = decide (a.2 ≤ p.2 ∧ p.2 < b.2 ∧ 0 < gsd a b p) := by
  unfold glf; rw [if_neg (by omega)]
/-- of two points that no edge parts: a corner stands on the right of the way between their heights -/
def spf (P Q v : Int × Int) : Bool := decide (P.2 < v.2 ∧ v.2 ≤ Q.2 ∧ gsd P Q v < 0)
theorem gsgn_p {n : Int} (h : 0 < n) : gsgn n = 1 := by unfold gsgn; rw [if_pos h]
theorem gsgn_m {n : Int} (h : n < 0) : gsgn n = -1 := by unfold gsgn; rw [if_neg (by omega), if_pos h]
theorem gmt_of (h1 : (0 < gsd P Q a ∧ gsd P Q b < 0) ∨ (gsd P Q a < 0 ∧ 0 < gsd P Q b)) (h2 : (0 < gsd a b P ∧ gsd a b Q < 0) ∨ (gsd a b P < 0 ∧ 0 < gsd a b Q)) : gmt P Q a b = true := by
  have e1 : gsgn (gsd P Q a) * gsgn (gsd P Q b) < 0 := by
    rcases h1 with ⟨h, h'⟩ | ⟨h, h'⟩
    · rw [gsgn_p h, gsgn_m h']; decide
    · rw [gsgn_m h, gsgn_p h']; decide
  have e2 : gsgn (gsd a b P) * gsgn (gsd a b Q) < 0 := by
    rcases h2 with ⟨h, h'⟩ | ⟨h, h'⟩
    · rw [gsgn_p h, gsgn_m h']; decide
    · rw [gsgn_m h, gsgn_p h']; decide
  unfold gmt
  rw [decide_eq_true e1, decide_eq_true e2]
  simp
theorem gmt_f (h : gmt P Q a b = false) : gon P Q a = false ∧ gon P Q b = false ∧ gon a b P = false ∧ gon a b Q = false ∧ ¬ (((0 < gsd P Q a ∧ gsd P Q b < 0) ∨ (gsd P Q a < 0 ∧ 0 < gsd P Q b)) ∧ ((0 < gsd a b P ∧ gsd a b Q < 0) ∨ (gsd a b P < 0 ∧ 0 < gsd a b Q))) := by
  refine ⟨?_, ?_, ?_, ?_, fun g => by rw [gmt_of g.1 g.2] at h; cases h⟩ <;> unfold gmt at h <;> simp only [Bool.or_eq_false_iff] at h
  · exact h.1.1.1.1
  · exact h.1.1.1.2
  · exact h.1.1.2
  · exact h.1.2
/-- on the line and between the heights of a rising segment: on it -/
theorem gon_mid (h : a.2 < b.2) (hz : gsd a b p = 0) (h1 : a.2 ≤ p.2) (h2 : p.2 ≤ b.2) : gon a b p = true := by
  refine gon_iff.2 ⟨?_, hz⟩
  have e : (b.2 - a.2) * (p.1 - a.1) = (b.1 - a.1) * (p.2 - a.2) := by unfold gsd at hz; omega
  have e2 : (b.2 - a.2) * (b.1 - p.1) = (b.1 - a.1) * (b.2 - p.2) := by unfold gsd at hz; grind
  rcases Int.le_total a.1 b.1 with g | g
  · have := sgn_of_mul_pos (m := b.2 - a.2) (n := p.1 - a.1) (by omega) (by rw [e]; exact mqq (by omega) (by omega))
    have := sgn_of_mul_pos (m := b.2 - a.2) (n := b.1 - p.1) (by omega) (by rw [e2]; exact mqq (by omega) (by omega))
    omega
  · have i1 : 0 ≤ a.1 - p.1 := sgn_of_mul_pos (m := b.2 - a.2) (n := a.1 - p.1) (by omega) (by
      have : (b.2 - a.2) * (a.1 - p.1) = -((b.1 - a.1) * (p.2 - a.2)) := by rw [← e]; grind
      rw [this]; have := mrq (m := b.1 - a.1) (n := p.2 - a.2) (by omega) (by omega); omega)
    have i2 : 0 ≤ p.1 - b.1 := sgn_of_mul_pos (m := b.2 - a.2) (n := p.1 - b.1) (by omega) (by
      have : (b.2 - a.2) * (p.1 - b.1) = -((b.1 - a.1) * (b.2 - p.2)) := by rw [← e2]; grind
      rw [this]; have := mrq (m := b.1 - a.1) (n := b.2 - p.2) (by omega) (by omega); omega)
    omega
end
end PF
set_option linter.unusedSimpArgs false
set_option linter.unusedVariables false
/-! Plane geometry: two points that no edge of a ring parts are on the same side of it. -/
namespace PF
section
variable {P Q a b : Int × Int}
theorem pos_of_mul {m n : Int} (hm : 0 ≤ m) (h : 0 < m * n) : 0 < n := by
  rcases Int.lt_or_le 0 n with g | g
  · exact g
  · have := mqr hm g; omega
theorem neg_of_mul {m n : Int} (hm : 0 ≤ m) (h : m * n < 0) : n < 0 := by
  rcases Int.lt_or_le n 0 with g | g
  · exact g
  · have := mqq hm g; omega
theorem se1 : (b.2 - a.2) * gsd P Q a = (a.2 - P.2) * (gsd a b P - gsd a b Q) - (Q.2 - P.2) * gsd a b P := by unfold gsd; grind
theorem se2 : (b.2 - a.2) * gsd P Q b = (b.2 - Q.2) * (gsd a b P - gsd a b Q) - (Q.2 - P.2) * gsd a b Q := by unfold gsd; grind
theorem se3 : gsd a b P - gsd a b Q = gsd P Q b - gsd P Q a := by unfold gsd; grind
/-- the four ways in which the heights of P Q and of a b overlap -/
theorem side4 (hpq : P.2 ≤ Q.2) (hab : a.2 ≤ b.2) (h : gmt P Q a b = false) (h1 : P.2 < b.2) (h2 : a.2 ≤ Q.2) :
    (if a.2 ≤ P.2 then 0 < gsd a b P else gsd P Q a < 0) ↔ (if Q.2 < b.2 then 0 < gsd a b Q else gsd P Q b < 0) := by
  obtain ⟨g1, g2, g3, g4, g5⟩ := gmt_f h
  have i1 := se1 (P := P) (Q := Q) (a := a) (b := b)
  have i2 := se2 (P := P) (Q := Q) (a := a) (b := b)
  have i3 := se3 (P := P) (Q := Q) (a := a) (b := b)
  have z1 : a.2 < b.2 → a.2 ≤ P.2 → P.2 ≤ b.2 → gsd a b P ≠ 0 := fun h h1 h2 hz => by rw [gon_mid h hz h1 h2] at g3; cases g3
  have z2 : a.2 < b.2 → a.2 ≤ Q.2 → Q.2 ≤ b.2 → gsd a b Q ≠ 0 := fun h h1 h2 hz => by rw [gon_mid h hz h1 h2] at g4; cases g4
  have z3 : P.2 < Q.2 → P.2 ≤ a.2 → a.2 ≤ Q.2 → gsd P Q a ≠ 0 := fun h h1 h2 hz => by rw [gon_mid h hz h1 h2] at g1; cases g1
  have z4 : P.2 < Q.2 → P.2 ≤ b.2 → b.2 ≤ Q.2 → gsd P Q b ≠ 0 := fun h h1 h2 hz => by rw [gon_mid h hz h1 h2] at g2; cases g2
  -- a level P Q through a, or a level a b through Q
  have f1 : P.2 = Q.2 → a.2 = P.2 → gsd P Q a = 0 ∧ ((0 < gsd a b P ∧ gsd a b Q < 0) ∨ (gsd a b P < 0 ∧ 0 < gsd a b Q)) → a.2 < b.2 → False := by
    intro e1 e2 hz hlt
    have t1 : gsd a b P = -((b.2 - a.2) * (P.1 - a.1)) := by unfold gsd; rw [show P.2 - a.2 = 0 by omega]; omega
    have t2 : gsd a b Q = -((b.2 - a.2) * (Q.1 - a.1)) := by unfold gsd; rw [show Q.2 - a.2 = 0 by omega]; omega
    have hon : gon P Q a = true := gon_iff.2 ⟨by
      rcases hz.2 with ⟨k1, k2⟩ | ⟨k1, k2⟩
      · have := neg_of_mul (m := b.2 - a.2) (n := P.1 - a.1) (by omega) (by omega)
        have := pos_of_mul (m := b.2 - a.2) (n := Q.1 - a.1) (by omega) (by omega)
        omega
      · have := pos_of_mul (m := b.2 - a.2) (n := P.1 - a.1) (by omega) (by omega)
        have := neg_of_mul (m := b.2 - a.2) (n := Q.1 - a.1) (by omega) (by omega)
        omega, hz.1⟩
    rw [hon] at g1; cases g1
  have f2 : a.2 = b.2 → b.2 = Q.2 → gsd a b Q = 0 ∧ ((0 < gsd P Q a ∧ gsd P Q b < 0) ∨ (gsd P Q a < 0 ∧ 0 < gsd P Q b)) → P.2 < Q.2 → False := by
    intro e1 e2 hz hlt
    have t1 : gsd P Q a = -((Q.2 - P.2) * (a.1 - Q.1)) := by unfold gsd; rw [show a.2 - P.2 = Q.2 - P.2 by omega]; grind
    have t2 : gsd P Q b = -((Q.2 - P.2) * (b.1 - Q.1)) := by unfold gsd; rw [show b.2 - P.2 = Q.2 - P.2 by omega]; grind
    have hon : gon a b Q = true := gon_iff.2 ⟨by
      rcases hz.2 with ⟨k1, k2⟩ | ⟨k1, k2⟩
      · have := neg_of_mul (m := Q.2 - P.2) (n := a.1 - Q.1) (by omega) (by omega)
        have := pos_of_mul (m := Q.2 - P.2) (n := b.1 - Q.1) (by omega) (by omega)
        omega
      · have := pos_of_mul (m := Q.2 - P.2) (n := a.1 - Q.1) (by omega) (by omega)
        have := neg_of_mul (m := Q.2 - P.2) (n := b.1 - Q.1) (by omega) (by omega)
        omega, hz.1⟩
    rw [hon] at g4; cases g4
  clear g1 g2 g3 g4 h
  generalize gsd P Q a = s1 at *
  generalize gsd P Q b = s2 at *
  generalize gsd a b P = t1 at *
  generalize gsd a b Q = t2 at *
  obtain ⟨p1, p⟩ := P
  obtain ⟨q1, q⟩ := Q
  obtain ⟨a1, A⟩ := a
  obtain ⟨b1, B⟩ := b
  simp only at *
  by_cases c1 : A ≤ p
  · by_cases c2 : q < B
    · rw [if_pos c1, if_pos c2]
      have hAB : A < B := by omega
      have y1 := z1 hAB c1 (by omega)
      have y2 := z2 hAB (by omega) (by omega)
      constructor
      · intro k
        rcases Int.lt_or_le 0 t2 with k2 | k2
        · exact k2
        · exfalso
          have k2 : t2 < 0 := by omega
          have a1 := mrq (m := A - p) (n := t1 - t2) (by omega) (by omega)
          have a2 := mqq (m := q - p) (n := t1) (by omega) (by omega)
          have a3 := mpp (m := B - q) (n := t1 - t2) (by omega) (by omega)
          have a4 := mqr (m := q - p) (n := t2) (by omega) (by omega)
          have k4 : 0 < s2 := pos_of_mul (m := B - A) (by omega) (by omega)
          have k3 : s1 ≤ 0 := by
            rcases Int.lt_or_le 0 s1 with g | g
            · have := mpp (m := B - A) (n := s1) (by omega) g; omega
            · exact g
          by_cases k5 : s1 = 0
          · have a5 : (B - A) * s1 = 0 := by rw [k5, Int.mul_zero]
            have a6 : (q - p) * t1 = 0 := by omega
            have a7 : q = p := by rcases Int.mul_eq_zero.1 a6 with h | h <;> omega
            have a8 : (A - p) * (t1 - t2) = 0 := by omega
            have a9 : A = p := by rcases Int.mul_eq_zero.1 a8 with h | h <;> omega
            exact f1 a7.symm a9 ⟨k5, .inl ⟨k, k2⟩⟩ hAB
          · exact g5 ⟨.inr ⟨by omega, k4⟩, .inl ⟨k, k2⟩⟩
      · intro k
        rcases Int.lt_or_le 0 t1 with k2 | k2
        · exact k2
        · exfalso
          have k2 : t1 < 0 := by omega
          have a1 := mrr (m := A - p) (n := t1 - t2) (by omega) (by omega)
          have a2 := mqr (m := q - p) (n := t1) (by omega) (by omega)
          have a3 := mpn (m := B - q) (n := t1 - t2) (by omega) (by omega)
          have a4 := mqq (m := q - p) (n := t2) (by omega) (by omega)
          have k4 : s2 < 0 := neg_of_mul (m := B - A) (by omega) (by omega)
          have k3 : 0 ≤ s1 := by
            rcases Int.lt_or_le s1 0 with g | g
            · have := mpn (m := B - A) (n := s1) (by omega) g; omega
            · exact g
          by_cases k5 : s1 = 0
          · have a5 : (B - A) * s1 = 0 := by rw [k5, Int.mul_zero]
            have a6 : (q - p) * t1 = 0 := by omega
            have a7 : q = p := by rcases Int.mul_eq_zero.1 a6 with h | h <;> omega
            have a8 : (A - p) * (t1 - t2) = 0 := by omega
            have a9 : A = p := by rcases Int.mul_eq_zero.1 a8 with h | h <;> omega
            exact f1 a7.symm a9 ⟨k5, .inr ⟨k2, k⟩⟩ hAB
          · exact g5 ⟨.inl ⟨by omega, k4⟩, .inr ⟨k2, k⟩⟩
    · rw [if_pos c1, if_neg c2]
      have hAB : A < B := by omega
      have hpq' : p < q := by omega
      have y1 := z1 hAB c1 (by omega)
      have y2 := z4 hpq' (by omega) (by omega)
      have key : (B - p) * (t1 - t2) = (B - A) * s2 + (q - p) * t1 := by grind
      constructor
      · intro k
        rcases Int.lt_or_le s2 0 with k2 | k2
        · exact k2
        · exfalso
          have k2 : 0 < s2 := by omega
          have a1 := mpp (m := B - A) (n := s2) (by omega) k2
          have a2 := mpp (m := q - p) (n := t1) (by omega) k
          have hD := pos_of_mul (m := B - p) (n := t1 - t2) (by omega) (by omega)
          have a3 := mrq (m := A - p) (n := t1 - t2) (by omega) (by omega)
          have a4 := mrq (m := B - q) (n := t1 - t2) (by omega) (by omega)
          have k3 : s1 < 0 := neg_of_mul (m := B - A) (by omega) (by omega)
          have k4 : t2 < 0 := neg_of_mul (m := q - p) (by omega) (by omega)
          exact g5 ⟨.inr ⟨k3, k2⟩, .inl ⟨k, k4⟩⟩
      · intro k
        rcases Int.lt_or_le 0 t1 with k2 | k2
        · exact k2
        · exfalso
          have k2 : t1 < 0 := by omega
          have a1 := mpn (m := B - A) (n := s2) (by omega) k
          have a2 := mpn (m := q - p) (n := t1) (by omega) k2
          have hD := neg_of_mul (m := B - p) (n := t1 - t2) (by omega) (by omega)
          have a3 := mrr (m := A - p) (n := t1 - t2) (by omega) (by omega)
          have a4 := mrr (m := B - q) (n := t1 - t2) (by omega) (by omega)
          have k3 : 0 < s1 := pos_of_mul (m := B - A) (by omega) (by omega)
          have k4 : 0 < t2 := pos_of_mul (m := q - p) (by omega) (by omega)
          exact g5 ⟨.inl ⟨k3, k⟩, .inr ⟨k2, k4⟩⟩
  · by_cases c2 : q < B
    · rw [if_neg c1, if_pos c2]
      have hAB : A < B := by omega
      have hpq' : p < q := by omega
      have y1 := z3 hpq' (by omega) (by omega)
      have y2 := z2 hAB (by omega) (by omega)
      have key : (q - A) * (t1 - t2) = -((B - A) * s1 + (q - p) * t2) := by grind
      constructor
      · intro k
        rcases Int.lt_or_le 0 t2 with k2 | k2
        · exact k2
        · exfalso
          have k2 : t2 < 0 := by omega
          have a1 := mpn (m := B - A) (n := s1) (by omega) k
          have a2 := mpn (m := q - p) (n := t2) (by omega) k2
          have hD := pos_of_mul (m := q - A) (n := t1 - t2) (by omega) (by omega)
          have a3 := mqq (m := A - p) (n := t1 - t2) (by omega) (by omega)
          have a4 := mqq (m := B - q) (n := t1 - t2) (by omega) (by omega)
          have k3 : 0 < s2 := pos_of_mul (m := B - A) (by omega) (by omega)
          have k4 : 0 < t1 := pos_of_mul (m := q - p) (by omega) (by omega)
          exact g5 ⟨.inr ⟨k, k3⟩, .inl ⟨k4, k2⟩⟩
      · intro k
        rcases Int.lt_or_le s1 0 with k2 | k2
        · exact k2
        · exfalso
          have k2 : 0 < s1 := by omega
          have a1 := mpp (m := B - A) (n := s1) (by omega) k2
          have a2 := mpp (m := q - p) (n := t2) (by omega) k
          have hD := neg_of_mul (m := q - A) (n := t1 - t2) (by omega) (by omega)
          have a3 := mqr (m := A - p) (n := t1 - t2) (by omega) (by omega)
          have a4 := mqr (m := B - q) (n := t1 - t2) (by omega) (by omega)
          have k3 : s2 < 0 := neg_of_mul (m := B - A) (by omega) (by omega)
          have k4 : t1 < 0 := neg_of_mul (m := q - p) (by omega) (by omega)
          exact g5 ⟨.inl ⟨k2, k3⟩, .inr ⟨k4, k⟩⟩
    · rw [if_neg c1, if_neg c2]
      have hpq' : p < q := by omega
      have y1 := z3 hpq' (by omega) (by omega)
      have y2 := z4 hpq' (by omega) (by omega)
      constructor
      · intro k
        rcases Int.lt_or_le s2 0 with k2 | k2
        · exact k2
        · exfalso
          have k2 : 0 < s2 := by omega
          have a1 := mpp (m := A - p) (n := t1 - t2) (by omega) (by omega)
          have a2 := mqr (m := B - A) (n := s1) (by omega) (by omega)
          have a3 := mrq (m := B - q) (n := t1 - t2) (by omega) (by omega)
          have a4 := mqq (m := B - A) (n := s2) (by omega) (by omega)
          have k3 : 0 < t1 := pos_of_mul (m := q - p) (by omega) (by omega)
          have k4 : t2 ≤ 0 := by
            rcases Int.lt_or_le 0 t2 with g | g
            · have := mpp (m := q - p) (n := t2) (by omega) g; omega
            · exact g
          by_cases k5 : t2 = 0
          · have a5 : (q - p) * t2 = 0 := by rw [k5, Int.mul_zero]
            have a6 : (B - A) * s2 = 0 := by omega
            have a7 : B = A := by rcases Int.mul_eq_zero.1 a6 with h | h <;> omega
            have a8 : (B - q) * (t1 - t2) = 0 := by omega
            have a9 : B = q := by rcases Int.mul_eq_zero.1 a8 with h | h <;> omega
            exact f2 a7.symm a9 ⟨k5, .inr ⟨k, k2⟩⟩ hpq'
          · exact g5 ⟨.inr ⟨k, k2⟩, .inl ⟨k3, by omega⟩⟩
      · intro k
        rcases Int.lt_or_le s1 0 with k2 | k2
        · exact k2
        · exfalso
          have k2 : 0 < s1 := by omega
          have a1 := mpn (m := A - p) (n := t1 - t2) (by omega) (by omega)
          have a2 := mqq (m := B - A) (n := s1) (by omega) (by omega)
          have a3 := mrr (m := B - q) (n := t1 - t2) (by omega) (by omega)
          have a4 := mqr (m := B - A) (n := s2) (by omega) (by omega)
          have k3 : t1 < 0 := neg_of_mul (m := q - p) (by omega) (by omega)
          have k4 : 0 ≤ t2 := by
            rcases Int.lt_or_le t2 0 with g | g
            · have := mpn (m := q - p) (n := t2) (by omega) g; omega
            · exact g
          by_cases k5 : t2 = 0
          · have a5 : (q - p) * t2 = 0 := by rw [k5, Int.mul_zero]
            have a6 : (B - A) * s2 = 0 := by omega
            have a7 : B = A := by rcases Int.mul_eq_zero.1 a6 with h | h <;> omega
            have a8 : (B - q) * (t1 - t2) = 0 := by omega
            have a9 : B = q := by rcases Int.mul_eq_zero.1 a8 with h | h <;> omega
            exact f2 a7.symm a9 ⟨k5, .inl ⟨k2, k⟩⟩ hpq'
          · exact g5 ⟨.inl ⟨k2, k⟩, .inr ⟨k3, by omega⟩⟩
/-- **an edge that does not part P from Q** -/
theorem edge_keep0 (hpq : P.2 ≤ Q.2) (hab : a.2 ≤ b.2) (h : gmt P Q a b = false) : (glf a b P != glf a b Q) = (spf P Q a != spf P Q b) := by
  rw [glf_up hab, glf_up hab]
  unfold spf
  by_cases h1 : P.2 < b.2
  · by_cases h2 : a.2 ≤ Q.2
    · have key := side4 hpq hab h h1 h2
      by_cases c1 : a.2 ≤ P.2 <;> by_cases c2 : Q.2 < b.2
      · rw [if_pos c1, if_pos c2] at key
        rw [show decide (a.2 ≤ P.2 ∧ P.2 < b.2 ∧ 0 < gsd a b P) = decide (a.2 ≤ Q.2 ∧ Q.2 < b.2 ∧ 0 < gsd a b Q) from decide_eq_decide.2 (by constructor <;> intro g <;> exact ⟨by omega, by omega, by first | exact key.1 g.2.2 | exact key.2 g.2.2⟩), decide_eq_false (show ¬ (P.2 < a.2 ∧ a.2 ≤ Q.2 ∧ gsd P Q a < 0) by omega), decide_eq_false (show ¬ (P.2 < b.2 ∧ b.2 ≤ Q.2 ∧ gsd P Q b < 0) by omega)]
        simp
      · rw [if_pos c1, if_neg c2] at key
        rw [show decide (a.2 ≤ P.2 ∧ P.2 < b.2 ∧ 0 < gsd a b P) = decide (P.2 < b.2 ∧ b.2 ≤ Q.2 ∧ gsd P Q b < 0) from decide_eq_decide.2 (by constructor <;> intro g <;> exact ⟨by omega, by omega, by first | exact key.1 g.2.2 | exact key.2 g.2.2⟩), decide_eq_false (show ¬ (P.2 < a.2 ∧ a.2 ≤ Q.2 ∧ gsd P Q a < 0) by omega), decide_eq_false (show ¬ (a.2 ≤ Q.2 ∧ Q.2 < b.2 ∧ 0 < gsd a b Q) by omega)]
        simp
      · rw [if_neg c1, if_pos c2] at key
        rw [show decide (P.2 < a.2 ∧ a.2 ≤ Q.2 ∧ gsd P Q a < 0) = decide (a.2 ≤ Q.2 ∧ Q.2 < b.2 ∧ 0 < gsd a b Q) from decide_eq_decide.2 (by constructor <;> intro g <;> exact ⟨by omega, by omega, by first | exact key.1 g.2.2 | exact key.2 g.2.2⟩), decide_eq_false (show ¬ (a.2 ≤ P.2 ∧ P.2 < b.2 ∧ 0 < gsd a b P) by omega), decide_eq_false (show ¬ (P.2 < b.2 ∧ b.2 ≤ Q.2 ∧ gsd P Q b < 0) by omega)]
        simp
      · rw [if_neg c1, if_neg c2] at key
        rw [show decide (P.2 < a.2 ∧ a.2 ≤ Q.2 ∧ gsd P Q a < 0) = decide (P.2 < b.2 ∧ b.2 ≤ Q.2 ∧ gsd P Q b < 0) from decide_eq_decide.2 (by constructor <;> intro g <;> exact ⟨by omega, by omega, by first | exact key.1 g.2.2 | exact key.2 g.2.2⟩), decide_eq_false (show ¬ (a.2 ≤ P.2 ∧ P.2 < b.2 ∧ 0 < gsd a b P) by omega), decide_eq_false (show ¬ (a.2 ≤ Q.2 ∧ Q.2 < b.2 ∧ 0 < gsd a b Q) by omega)]
        simp
    · rw [decide_eq_false (show ¬ (a.2 ≤ P.2 ∧ P.2 < b.2 ∧ 0 < gsd a b P) by omega), decide_eq_false (show ¬ (a.2 ≤ Q.2 ∧ Q.2 < b.2 ∧ 0 < gsd a b Q) by omega), decide_eq_false (show ¬ (P.2 < a.2 ∧ a.2 ≤ Q.2 ∧ gsd P Q a < 0) by omega), decide_eq_false (show ¬ (P.2 < b.2 ∧ b.2 ≤ Q.2 ∧ gsd P Q b < 0) by omega)]
  · rw [decide_eq_false (show ¬ (a.2 ≤ P.2 ∧ P.2 < b.2 ∧ 0 < gsd a b P) by omega), decide_eq_false (show ¬ (a.2 ≤ Q.2 ∧ Q.2 < b.2 ∧ 0 < gsd a b Q) by omega), decide_eq_false (show ¬ (P.2 < a.2 ∧ a.2 ≤ Q.2 ∧ gsd P Q a < 0) by omega), decide_eq_false (show ¬ (P.2 < b.2 ∧ b.2 ≤ Q.2 ∧ gsd P Q b < 0) by omega)]
theorem gmt_swap2 (P Q a b : Int × Int) (h : gmt P Q a b = false) : gmt P Q b a = false := by
  have e1 := gsd_swap a b P
  have e2 := gsd_swap a b Q
  have m : ∀ p, gon b a p = gon a b p := fun p => by
    unfold gon gwi; rw [gsd_swap a b p, Int.min_comm, Int.max_comm, Int.min_comm b.2, Int.max_comm b.2, decide_eq_decide.2 (show -gsd a b p = 0 ↔ gsd a b p = 0 by omega)]
  have n : ∀ x : Int, gsgn (-x) = -gsgn x := fun x => by
    unfold gsgn
    split <;> split <;> (try split) <;> (try split) <;> omega
  unfold gmt at h ⊢
  rw [m, m, e1, e2, n, n, Int.neg_mul_neg, Int.mul_comm (gsgn (gsd P Q b)), Bool.or_comm (gon P Q b)]
  exact h
theorem edge_keep1 (hpq : P.2 ≤ Q.2) (h : gmt P Q a b = false) : (glf a b P != glf a b Q) = (spf P Q a != spf P Q b) := by
  rcases Int.le_total a.2 b.2 with g | g
  · exact edge_keep0 hpq g h
  · rw [← glf_swap a b P, ← glf_swap a b Q, edge_keep0 hpq g (gmt_swap2 _ _ _ _ h)]
    cases spf P Q a <;> cases spf P Q b <;> rfl
theorem gmt_swap1 (P Q a b : Int × Int) (h : gmt P Q a b = false) : gmt Q P a b = false := by
  have e1 := gsd_swap P Q a
  have e2 := gsd_swap P Q b
  have m : ∀ p, gon Q P p = gon P Q p := fun p => by
    unfold gon gwi; rw [gsd_swap P Q p, Int.min_comm, Int.max_comm, Int.min_comm Q.2, Int.max_comm Q.2, decide_eq_decide.2 (show -gsd P Q p = 0 ↔ gsd P Q p = 0 by omega)]
  have n : ∀ x : Int, gsgn (-x) = -gsgn x := fun x => by
    unfold gsgn
    split <;> split <;> (try split) <;> (try split) <;> omega
  unfold gmt at h ⊢
  rw [m, m, e1, e2, n, n, Int.neg_mul_neg, Int.mul_comm (gsgn (gsd a b Q)), Bool.or_assoc (gon P Q a || gon P Q b), Bool.or_comm (gon a b Q), ← Bool.or_assoc (gon P Q a || gon P Q b)]
  exact h
end
end PF
namespace Go.Proofs.YtlpibeloedfbdaaGreat
open Go.RowKit PF JR
/-- **two points that no edge of a ring parts are on the same side of it** -/
theorem ring_keep {l : List (Int × Int)} {P Q : Int × Int} (h0 : 0 < l.length) (h : ∀ k, k < l.length → gmt P Q (at' l k) (nxp l k) = false) : xrs l P l.length = xrs l Q l.length := by
  have core : ∀ P Q : Int × Int, P.2 ≤ Q.2 → (∀ k, k < l.length → gmt P Q (at' l k) (nxp l k) = false) → xrs l P l.length = xrs l Q l.length := fun P Q hpq h => by
    refine (tele (l := l) (m := l) (p := Q) (p' := P) (spf P Q) h0 fun k hk => ?_)
    have e := edge_keep1 hpq (h k hk)
    rw [glf_rc, glf_rc] at e
    show rcIn _ _ _ _ _ _ = (rcIn _ _ _ _ _ _ != _)
    rw [← e]
    cases rcIn (at' l k).1 (at' l k).2 (nxp l k).1 (nxp l k).2 P.1 P.2 <;> cases rcIn (at' l k).1 (at' l k).2 (nxp l k).1 (nxp l k).2 Q.1 Q.2 <;> rfl
  rcases Int.le_total P.2 Q.2 with g | g
  · exact core P Q g h
  · exact (core Q P g fun k hk => gmt_swap1 _ _ _ _ (h k hk)).symm
end Go.Proofs.YtlpibeloedfbdaaGreat
set_option linter.unusedSimpArgs false
set_option linter.unusedVariables false
/-! Plain: the scene's own segments and rings (spec.GeoOn, GeoLeft, GeoMeet, RingSide), and a rectangle and a line. -/
namespace PF
theorem gsd_side (a b p : Int × Int) : gsd a b p = side a.1 a.2 b.1 b.2 p.1 p.2 := by unfold gsd side; grind
theorem gsgn_neg {m n : Int} : gsgn m * gsgn n < 0 ↔ (m < 0 ∧ 0 < n) ∨ (0 < m ∧ n < 0) := by
  unfold gsgn
  split <;> split <;> (try split) <;> (try split) <;> simp <;> omega
theorem gmt_sym (a b c d : Int × Int) : gmt a b c d = gmt c d a b := by
  unfold gmt
  cases gon a b c <;> cases gon a b d <;> cases gon c d a <;> cases gon c d b <;> simp [Bool.and_comm]
/-- off one line they meet just as the package says -/
theorem gmt_meets {a b c d : Int × Int} (ho : ovl a.1 a.2 b.1 b.2 c.1 c.2 d.1 d.2 = false) : gmt a b c d = meets a.1 a.2 b.1 b.2 c.1 c.2 d.1 d.2 := by
  obtain ⟨h1, h2⟩ := ovl_false ho
  have sw : ∀ Ax Ay Bx By Cx Cy Dx Dy : Int, meets Ax Ay Bx By Dx Dy Cx Cy = meets Ax Ay Bx By Cx Cy Dx Dy := fun Ax Ay Bx By Cx Cy Dx Dy => by
    unfold meets
    apply decide_eq_decide.2
    rw [apart_comm, side_swap (Ax := Cx) (Ay := Cy) (Bx := Dx) (By := Dy), side_swap (Ax := Cx) (Ay := Cy) (Bx := Dx) (By := Dy), apart_neg]
  have sy : meets c.1 c.2 d.1 d.2 a.1 a.2 b.1 b.2 = meets a.1 a.2 b.1 b.2 c.1 c.2 d.1 d.2 := by
    unfold meets
    apply decide_eq_decide.2
    exact And.comm
  have k1 : side a.1 a.2 b.1 b.2 c.1 c.2 = 0 → gon a b c = meets a.1 a.2 b.1 b.2 c.1 c.2 d.1 d.2 := fun h => by
    rw [gon_rc]; exact (on_iff h (h1.resolve_left (fun g => g h))).symm
  have k2 : side a.1 a.2 b.1 b.2 d.1 d.2 = 0 → gon a b d = meets a.1 a.2 b.1 b.2 c.1 c.2 d.1 d.2 := fun h => by
    rw [gon_rc, ← sw]; exact (on_iff h (h1.resolve_right (fun g => g h))).symm
  have k3 : side c.1 c.2 d.1 d.2 a.1 a.2 = 0 → gon c d a = meets a.1 a.2 b.1 b.2 c.1 c.2 d.1 d.2 := fun h => by
    rw [gon_rc, ← sy]; exact (on_iff h (h2.resolve_left (fun g => g h))).symm
  have k4 : side c.1 c.2 d.1 d.2 b.1 b.2 = 0 → gon c d b = meets a.1 a.2 b.1 b.2 c.1 c.2 d.1 d.2 := fun h => by
    rw [gon_rc, ← sy, ← sw]; exact (on_iff h (h2.resolve_right (fun g => g h))).symm
  have n1 : side a.1 a.2 b.1 b.2 c.1 c.2 ≠ 0 → gon a b c = false := fun h => by unfold gon; rw [gsd_side, decide_eq_false h, Bool.and_false]
  have n2 : side a.1 a.2 b.1 b.2 d.1 d.2 ≠ 0 → gon a b d = false := fun h => by unfold gon; rw [gsd_side, decide_eq_false h, Bool.and_false]
  have n3 : side c.1 c.2 d.1 d.2 a.1 a.2 ≠ 0 → gon c d a = false := fun h => by unfold gon; rw [gsd_side, decide_eq_false h, Bool.and_false]
  have n4 : side c.1 c.2 d.1 d.2 b.1 b.2 ≠ 0 → gon c d b = false := fun h => by unfold gon; rw [gsd_side, decide_eq_false h, Bool.and_false]
  have hm : meets a.1 a.2 b.1 b.2 c.1 c.2 d.1 d.2 = true ↔ apartB (side a.1 a.2 b.1 b.2 c.1 c.2) (side a.1 a.2 b.1 b.2 d.1 d.2) ∧ apartB (side c.1 c.2 d.1 d.2 a.1 a.2) (side c.1 c.2 d.1 d.2 b.1 b.2) := by
    unfold meets; exact decide_eq_true_iff
  unfold gmt
  rw [gsd_side, gsd_side, gsd_side, gsd_side]
  rw [Bool.eq_iff_iff, Bool.or_eq_true, Bool.or_eq_true, Bool.or_eq_true, Bool.or_eq_true, Bool.and_eq_true, decide_eq_true_iff, decide_eq_true_iff, gsgn_neg, gsgn_neg]
  generalize side a.1 a.2 b.1 b.2 c.1 c.2 = s1 at *
  generalize side a.1 a.2 b.1 b.2 d.1 d.2 = s2 at *
  generalize side c.1 c.2 d.1 d.2 a.1 a.2 = s3 at *
  generalize side c.1 c.2 d.1 d.2 b.1 b.2 = s4 at *
  clear sw sy
  generalize meets a.1 a.2 b.1 b.2 c.1 c.2 d.1 d.2 = r at *
  constructor
  · rintro ((((h | h) | h) | h) | ⟨h, h'⟩)
    · by_cases g : s1 = 0
      · rw [← k1 g]; exact h
      · rw [n1 g] at h; cases h
    · by_cases g : s2 = 0
      · rw [← k2 g]; exact h
      · rw [n2 g] at h; cases h
    · by_cases g : s3 = 0
      · rw [← k3 g]; exact h
      · rw [n3 g] at h; cases h
    · by_cases g : s4 = 0
      · rw [← k4 g]; exact h
      · rw [n4 g] at h; cases h
    · rw [hm]; unfold apartB; omega
  · intro h
    by_cases g1 : s1 = 0
    · exact .inl (.inl (.inl (.inl ((k1 g1).trans h))))
    by_cases g2 : s2 = 0
    · exact .inl (.inl (.inl (.inr ((k2 g2).trans h))))
    by_cases g3 : s3 = 0
    · exact .inl (.inl (.inr ((k3 g3).trans h)))
    by_cases g4 : s4 = 0
    · exact .inl (.inr ((k4 g4).trans h))
    obtain ⟨q1, q2⟩ := hm.1 h
    unfold apartB at q1 q2
    exact .inr ⟨by omega, by omega⟩
end PF
namespace Go.Proofs.YtlpibeloedfbdaaGreat
open Go.RowKit PF JR
section
variable {a b c d : Int}
/-- a ring without its rectangle -/
theorem has_nobox {l : List (Int × Int)} (h3 : 3 ≤ l.length) (p : Int × Int) : ringHas l p true = (aon l p (nSeg true l) || xrs l p (nSeg true l)) := by
  obtain ⟨e1, e2⟩ := ring_all (p := p) h3
  rw [ringHas_al true h3, e1, e2]
  cases aon l p l.length <;> cases xrs l p l.length <;> rfl
end
end Go.Proofs.YtlpibeloedfbdaaGreat
set_option linter.unusedSimpArgs false
set_option linter.unusedVariables false
/-! Plain: a line past a ring at a height (FnSceneCut). -/
namespace Go.Proofs.YtlpibeloedfbdaaGreat
open Go.RowKit PF JR
theorem cnt_pair {F : Nat → Bool} {i j : Nat} : ∀ {n : Nat}, i < j → j < n → F i = true → F j = true → 2 ≤ cntN F n := by
  intro n
  induction n with
  | zero => intro _ h; omega
  | succ n ih =>
    intro hij hj fi fj
    rw [cntN]
    rcases Nat.lt_or_ge j n with h | h
    · have := ih hij h fi fj
      omega
    · obtain rfl : j = n := by omega
      rw [if_pos fj]
      have h1 := cntN_le (f := F) (k := i + 1) (n := j) (by omega)
      rw [cntN, if_pos fi] at h1
      omega
/-- the step from k on goes through h -/
def stp (f g : Nat → Int) (h : Int) (k : Nat) : Bool := decide ((f k ≤ h ∧ h ≤ g k) ∨ (g k ≤ h ∧ h ≤ f k))
section
variable {N : Nat} {f g : Nat → Int} {h : Int}
theorem way (h1 : ∀ k, k + 1 < N → g k = f (k + 1)) : ∀ n p, p + (n + 1) < N → ((f p ≤ h ∧ h ≤ f (p + (n + 1))) ∨ (f (p + (n + 1)) ≤ h ∧ h ≤ f p)) → ∃ k, p ≤ k ∧ k < p + (n + 1) ∧ stp f g h k = true := by
  intro n
  induction n with
  | zero =>
    intro p hp hh
    refine ⟨p, Nat.le_refl _, by omega, ?_⟩
    unfold stp
    rw [decide_eq_true_iff, h1 p (by omega)]
    simpa using hh
  | succ n ih =>
    intro p hp hh
    by_cases hs : stp f g h p = true
    · exact ⟨p, Nat.le_refl _, by omega, hs⟩
    · unfold stp at hs
      rw [decide_eq_true_iff, h1 p (by omega)] at hs
      rw [show p + (n + 1 + 1) = p + 1 + (n + 1) from by omega] at hh hp ⊢
      obtain ⟨k, a, b, c⟩ := ih (p + 1) hp (by omega)
      exact ⟨k, by omega, b, c⟩
theorem way' (h1 : ∀ k, k + 1 < N → g k = f (k + 1)) {p q : Nat} (hpq : p < q) (hq : q < N) (hh : (f p ≤ h ∧ h ≤ f q) ∨ (f q ≤ h ∧ h ≤ f p)) : ∃ k, p ≤ k ∧ k < q ∧ stp f g h k = true := by
  obtain ⟨n, rfl⟩ : ∃ n, q = p + (n + 1) := ⟨q - p - 1, by omega⟩
  exact way h1 n p hq hh
/-- round a ring, what lies on both sides of h goes through it twice -/
theorem twice (hN : 2 ≤ N) (h1 : ∀ k, k + 1 < N → g k = f (k + 1)) (h2 : g (N - 1) = f 0) {i j : Nat} (hi : i < N) (hj : j < N) (fi : f i ≤ h) (fj : h ≤ f j) : 2 ≤ cntN (stp f g h) N := by
  have core : ∀ p q, p < q → q < N → ((f p ≤ h ∧ h ≤ f q) ∨ (f q ≤ h ∧ h ≤ f p)) → 2 ≤ cntN (stp f g h) N := by
    intro p q hpq hq hh
    obtain ⟨k, k1, k2, k3⟩ := way' h1 hpq hq hh
    have hlast : (f (N - 1) ≤ h ∧ h ≤ f 0) ∨ (f 0 ≤ h ∧ h ≤ f (N - 1)) → 2 ≤ cntN (stp f g h) N := fun e =>
      cnt_pair (show k < N - 1 by omega) (by omega) k3 (by unfold stp; rw [decide_eq_true_iff, h2]; exact e)
    by_cases hl : (f (N - 1) ≤ h ∧ h ≤ f 0) ∨ (f 0 ≤ h ∧ h ≤ f (N - 1))
    · exact hlast hl
    -- both ends lie on one side of h: one of the two ways from there goes through it
    by_cases hp : (f 0 ≤ h ∧ h ≤ f p) ∨ (f p ≤ h ∧ h ≤ f 0)
    · by_cases h0 : p = 0
      · subst h0
        have hqn : q ≠ N - 1 := fun e => by subst e; omega
        obtain ⟨k', a, b, c⟩ := way' h1 (h := h) (p := q) (q := N - 1) (by omega) (by omega) (by omega)
        exact cnt_pair (show k < k' by omega) (by omega) k3 c
      · obtain ⟨k', a, b, c⟩ := way' h1 (p := 0) (q := p) (by omega) (by omega) hp
        exact cnt_pair (show k' < k by omega) (by omega) c k3
    · have hqn : q ≠ N - 1 := fun e => by subst e; omega
      obtain ⟨k', a, b, c⟩ := way' h1 (h := h) (p := q) (q := N - 1) (by omega) (by omega) (by omega)
      exact cnt_pair (show k < k' by omega) (by omega) k3 c
  rcases Nat.lt_trichotomy i j with e | e | e
  · exact core i j e hj (.inl ⟨fi, fj⟩)
  · subst e
    rcases Nat.eq_zero_or_pos i with e | e
    · subst e
      exact core 0 1 (by omega) (by omega) (by omega)
    · exact core 0 i e hi (by omega)
  · exact core j i e hi (.inr ⟨fi, fj⟩)
end
section
variable {l : List (Int × Int)}
end
end Go.Proofs.YtlpibeloedfbdaaGreat
