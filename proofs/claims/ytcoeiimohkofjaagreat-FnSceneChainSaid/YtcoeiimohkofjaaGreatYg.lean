import Derived.Test.YtcoeiimohkofjaaGreatQY
set_option linter.unusedSimpArgs false
set_option linter.unusedVariables false
/-! Plane geometry of segments: half planes, and the side that a segment keeps. -/
namespace PF
section
variable {P Q a b p : Int × Int}
theorem mpp {m n : Int} (hm : 0 < m) (hn : 0 < n) : 0 < m * n := Int.mul_pos hm hn
theorem mqq {m n : Int} (hm : 0 ≤ m) (hn : 0 ≤ n) : 0 ≤ m * n := Int.mul_nonneg hm hn
theorem mpn {m n : Int} (hm : 0 < m) (hn : n < 0) : m * n < 0 := Int.mul_neg_of_pos_of_neg hm hn
theorem mnp {m n : Int} (hm : m < 0) (hn : 0 < n) : m * n < 0 := Int.mul_neg_of_neg_of_pos hm hn
theorem mnn {m n : Int} (hm : m < 0) (hn : n < 0) : 0 < m * n := Int.mul_pos_of_neg_of_neg hm hn
theorem mqr {m n : Int} (hm : 0 ≤ m) (hn : n ≤ 0) : m * n ≤ 0 := Int.mul_nonpos_of_nonneg_of_nonpos hm hn
theorem mrq {m n : Int} (hm : m ≤ 0) (hn : 0 ≤ n) : m * n ≤ 0 := Int.mul_nonpos_of_nonpos_of_nonneg hm hn
theorem mrr {m n : Int} (hm : m ≤ 0) (hn : n ≤ 0) : 0 ≤ m * n := Int.mul_nonneg_of_nonpos_of_nonpos hm hn
theorem sgn_of_mul_pos {m n : Int} (hm : 0 < m) (h : 0 ≤ m * n) : 0 ≤ n := by
  rcases Int.lt_or_le n 0 with g | g
  · have := mpn hm g; omega
  · exact g
theorem sgn_of_mul_neg {m n : Int} (hm : m < 0) (h : m * n ≤ 0) : 0 ≤ n := by
  rcases Int.lt_or_le n 0 with g | g
  · have := mnn hm g; omega
  · exact g
theorem gsd_swap (a b p : Int × Int) : gsd b a p = -gsd a b p := by unfold gsd; grind
theorem gsd_aa (a p : Int × Int) : gsd a a p = 0 := by unfold gsd; grind
theorem gsd_a (a b : Int × Int) : gsd a b a = 0 := by unfold gsd; grind
theorem gsd_b (a b : Int × Int) : gsd a b b = 0 := by unfold gsd; grind
theorem gsd_rot (a b c : Int × Int) : gsd b c a = gsd a b c := by unfold gsd; grind
theorem gon_iff : gon a b p = true ↔ (min a.1 b.1 ≤ p.1 ∧ p.1 ≤ max a.1 b.1 ∧ min a.2 b.2 ≤ p.2 ∧ p.2 ≤ max a.2 b.2) ∧ gsd a b p = 0 := by
  unfold gon gwi; rw [Bool.and_eq_true, decide_eq_true_iff, decide_eq_true_iff]
theorem gon_a (a b : Int × Int) : gon a b a = true := gon_iff.2 ⟨by omega, gsd_a a b⟩
theorem gon_b (a b : Int × Int) : gon a b b = true := gon_iff.2 ⟨by omega, gsd_b a b⟩
/-- what stands on a segment stands where its ends do -/
theorem hp_on (h : gon a b p = true) (ha : 0 ≤ gsd P Q a) (hb : 0 ≤ gsd P Q b) : 0 ≤ gsd P Q p := by
  obtain ⟨⟨x1, x2, y1, y2⟩, hz⟩ := gon_iff.1 h
  by_cases ex : a.1 = b.1
  · by_cases ey : a.2 = b.2
    · have e : p = a := Prod.ext (by omega) (by omega)
      rw [e]; exact ha
    · have i2 : (b.2 - a.2) * gsd P Q p = (b.2 - p.2) * gsd P Q a + (p.2 - a.2) * gsd P Q b := by
        unfold gsd at hz ⊢; grind
      rcases Int.lt_or_gt_of_ne ey with g | g
      · have := mqq (m := b.2 - p.2) (by omega) ha
        have := mqq (m := p.2 - a.2) (by omega) hb
        exact sgn_of_mul_pos (m := b.2 - a.2) (by omega) (by omega)
      · have := mrq (m := b.2 - p.2) (by omega) ha
        have := mrq (m := p.2 - a.2) (by omega) hb
        exact sgn_of_mul_neg (m := b.2 - a.2) (by omega) (by omega)
  · have i1 : (b.1 - a.1) * gsd P Q p = (b.1 - p.1) * gsd P Q a + (p.1 - a.1) * gsd P Q b := by
      unfold gsd at hz ⊢; grind
    rcases Int.lt_or_gt_of_ne ex with g | g
    · have := mqq (m := b.1 - p.1) (by omega) ha
      have := mqq (m := p.1 - a.1) (by omega) hb
      exact sgn_of_mul_pos (m := b.1 - a.1) (by omega) (by omega)
    · have := mrq (m := b.1 - p.1) (by omega) ha
      have := mrq (m := p.1 - a.1) (by omega) hb
      exact sgn_of_mul_neg (m := b.1 - a.1) (by omega) (by omega)
theorem glf_swap (a b p : Int × Int) : glf b a p = glf a b p := by
  unfold glf
  by_cases h : b.2 < a.2
  · rw [if_pos h, if_neg (by omega)]
  · rw [if_neg h]
    by_cases h2 : a.2 < b.2
    · rw [if_pos h2]
    · rw [if_neg h2]
      apply decide_eq_decide.2; omega
theorem glf_up (h : a.2 ≤ b.2) : glf a b p = decide (a.2 ≤ p.2 ∧ p.2 < b.2 ∧ 0 < gsd a b p) := by
  unfold glf; rw [if_neg (by omega)]
/-- the function of a corner that tells the crossings of a ring beyond a line -/
def hpf (P Q p v : Int × Int) : Bool := decide (Q.2 < P.2) && decide (v.2 ≤ p.2)
theorem hp_left0 (hab : a.2 ≤ b.2) (ha : 0 ≤ gsd P Q a) (hb : 0 ≤ gsd P Q b) (hp : gsd P Q p < 0) : glf a b p = (hpf P Q p a != hpf P Q p b) := by
  rw [glf_up hab]
  have key : gsd a b p * (Q.2 - P.2) = (a.2 - p.2) * (gsd P Q b - gsd P Q p) - (b.2 - p.2) * (gsd P Q a - gsd P Q p) := by unfold gsd; grind
  unfold hpf
  by_cases c : a.2 ≤ p.2 ∧ p.2 < b.2
  · have h1 := mrq (m := a.2 - p.2) (n := gsd P Q b - gsd P Q p) (by omega) (by omega)
    have h2 := mpp (m := b.2 - p.2) (n := gsd P Q a - gsd P Q p) (by omega) (by omega)
    rcases Int.lt_trichotomy Q.2 P.2 with g | g | g
    · have h3 : 0 < gsd a b p := by
        rcases Int.lt_or_le 0 (gsd a b p) with k | k
        · exact k
        · have := mrr (m := gsd a b p) (n := Q.2 - P.2) k (by omega); omega
      rw [decide_eq_true ⟨c.1, c.2, h3⟩, decide_eq_true g, decide_eq_true c.1, decide_eq_false (by omega)]
      rfl
    · exfalso
      rw [g, Int.sub_self, Int.mul_zero] at key
      omega
    · have h3 : ¬ 0 < gsd a b p := by
        intro k
        have := mpp (m := gsd a b p) (n := Q.2 - P.2) k (by omega); omega
      rw [decide_eq_false (by omega), decide_eq_false (by omega)]
      rfl
  · rw [decide_eq_false (by omega)]
    by_cases c1 : a.2 ≤ p.2
    · rw [decide_eq_true c1, decide_eq_true (show b.2 ≤ p.2 by omega)]; simp
    · rw [decide_eq_false c1, decide_eq_false (show ¬ b.2 ≤ p.2 by omega)]; simp
theorem hp_left (ha : 0 ≤ gsd P Q a) (hb : 0 ≤ gsd P Q b) (hp : gsd P Q p < 0) : glf a b p = (hpf P Q p a != hpf P Q p b) := by
  rcases Int.le_total a.2 b.2 with h | h
  · exact hp_left0 h ha hb hp
  · rw [← glf_swap a b, hp_left0 h hb ha hp]; cases hpf P Q p a <;> cases hpf P Q p b <;> rfl
/-- of two points that no edge parts: a corner stands on the right of the way between their heights -/
def spf (P Q v : Int × Int) : Bool := decide (P.2 < v.2 ∧ v.2 ≤ Q.2 ∧ gsd P Q v < 0)
theorem gsgn_p {n : Int} (h : 0 < n) : gsgn n = 1 := by unfold gsgn; rw [if_pos h]
theorem gsgn_m {n : Int} (h : n < 0) : gsgn n = -1 := by unfold gsgn; rw [if_neg (by omega), if_pos h]
theorem gmt_of (h1 : (0 < gsd P Q a ∧ gsd P Q b < 0) ∨ (gsd P Q a < 0 ∧ 0 < gsd P Q b)) (h2 : (0 < gsd a b P ∧ gsd a b Q < 0) ∨ (gsd a b P < 0 ∧ 0 < gsd a b Q)) : gmt P Q a b = true := by
  have e1 : gsgn (gsd P Q a) * gsgn (gsd P Q b) < 0 := by
    rcases h1 with ⟨h, h'⟩ | ⟨h, h'⟩
    · rw [gsgn_p h, gsgn_m h']; decide
    · rw [gsgn_m h, gsgn_p h']; decide
  have e2 : gsgn (gsd a b P) * gsgn (gsd a b Q) < 0 := by
    rcases h2 with ⟨h, h'⟩ | ⟨h, h'⟩
    · rw [gsgn_p h, gsgn_m h']; decide
    · rw [gsgn_m h, gsgn_p h']; decide
  unfold gmt
  rw [decide_eq_true e1, decide_eq_true e2]
  simp
theorem gmt_f (h : gmt P Q a b = false) : gon P Q a = false ∧ gon P Q b = false ∧ gon a b P = false ∧ gon a b Q = false ∧ ¬ (((0 < gsd P Q a ∧ gsd P Q b < 0) ∨ (gsd P Q a < 0 ∧ 0 < gsd P Q b)) ∧ ((0 < gsd a b P ∧ gsd a b Q < 0) ∨ (gsd a b P < 0 ∧ 0 < gsd a b Q))) := by
  refine ⟨?_, ?_, ?_, ?_, fun g => by rw [gmt_of g.1 g.2] at h; cases h⟩ <;> unfold gmt at h <;> simp only [Bool.or_eq_false_iff] at h
  · exact h.1.1.1.1
  · exact h.1.1.1.2
  · exact h.1.1.2
  · exact h.1.2
/-- on the line and between the heights of a rising segment: on it -/
theorem gon_mid (h : a.2 < b.2) (hz : gsd a b p = 0) (h1 : a.2 ≤ p.2) (h2 : p.2 ≤ b.2) : gon a b p = true := by
  refine gon_iff.2 ⟨?_, hz⟩
  have e : (b.2 - a.2) * (p.1 - a.1) = (b.1 - a.1) * (p.2 - a.2) := by unfold gsd at hz; omega
  have e2 : (b.2 - a.2) * (b.1 - p.1) = (b.1 - a.1) * (b.2 - p.2) := by unfold gsd at hz; grind
  rcases Int.le_total a.1 b.1 with g | g
  · have := sgn_of_mul_pos (m := b.2 - a.2) (n := p.1 - a.1) (by omega) (by rw [e]; exact mqq (by omega) (by omega))
    have := sgn_of_mul_pos (m := b.2 - a.2) (n := b.1 - p.1) (by omega) (by rw [e2]; exact mqq (by omega) (by omega))
    omega
  · have i1 : 0 ≤ a.1 - p.1 := sgn_of_mul_pos (m := b.2 - a.2) (n := a.1 - p.1) (by omega) (by
      have : (b.2 - a.2) * (a.1 - p.1) = -((b.1 - a.1) * (p.2 - a.2)) := by rw [← e]; grind
      rw [this]; have := mrq (m := b.1 - a.1) (n := p.2 - a.2) (by omega) (by omega); omega)
    have i2 : 0 ≤ p.1 - b.1 := sgn_of_mul_pos (m := b.2 - a.2) (n := p.1 - b.1) (by omega) (by
      have : (b.2 - a.2) * (p.1 - b.1) = -((b.1 - a.1) * (b.2 - p.2)) := by rw [← e2]; grind
      rw [this]; have := mrq (m := b.1 - a.1) (n := b.2 - p.2) (by omega) (by omega); omega)
    omega
end
end PF
