import Derived.Test.YtlpibeloedfbdaaGreatPr
import Derived.Test.YtlpibeloedfbdaaGreatSg
set_option linter.unusedSimpArgs false
set_option linter.unusedVariables false
/-! Two segments: plain facts. -/
namespace PF
section
variable {Ax Ay Bx By Cx Cy Dx Dy : Int}
/-- a sign change, or a nought, from m to n -/
def apartB (m n : Int) : Prop := (m ≤ 0 ∧ 0 ≤ n) ∨ (n ≤ 0 ∧ 0 ≤ m)
instance (m n : Int) : Decidable (apartB m n) := by unfold apartB; infer_instance
/-- two segments that do not lie on one line have a point in common -/
def meets (Ax Ay Bx By Cx Cy Dx Dy : Int) : Bool :=
  decide (apartB (side Ax Ay Bx By Cx Cy) (side Ax Ay Bx By Dx Dy) ∧ apartB (side Cx Cy Dx Dy Ax Ay) (side Cx Cy Dx Dy Bx By))
theorem ovl_false (h : ovl Ax Ay Bx By Cx Cy Dx Dy = false) : (side Ax Ay Bx By Cx Cy ≠ 0 ∨ side Ax Ay Bx By Dx Dy ≠ 0) ∧ (side Cx Cy Dx Dy Ax Ay ≠ 0 ∨ side Cx Cy Dx Dy Bx By ≠ 0) := by
  unfold ovl at h
  simp only [Bool.or_eq_false_iff, Bool.and_eq_false_iff, decide_eq_false_iff_not] at h
  exact h
theorem side_rel : side Cx Cy Dx Dy Ax Ay - side Cx Cy Dx Dy Bx By = side Ax Ay Bx By Dx Dy - side Ax Ay Bx By Cx Cy := by
  unfold side; grind
theorem bary_y : -side Cx Cy Dx Dy Bx By * Ay + side Cx Cy Dx Dy Ax Ay * By = side Ax Ay Bx By Dx Dy * Cy + -side Ax Ay Bx By Cx Cy * Dy := by
  unfold side; grind
theorem bary_x : -side Cx Cy Dx Dy Bx By * Ax + side Cx Cy Dx Dy Ax Ay * Bx = side Ax Ay Bx By Dx Dy * Cx + -side Ax Ay Bx By Cx Cy * Dx := by
  unfold side; grind
theorem weights {p q u v a b c d : Int} (hp : 0 ≤ p) (hq : 0 ≤ q) (hu : 0 ≤ u) (hv : 0 ≤ v) (hs : p + q = u + v) (h0 : 0 < p + q) (he : p * a + q * b = u * c + v * d)
    (h1 : a < c) (h2 : a < d) (h3 : b < c) (h4 : b < d) : False := by
  have e1 : p * a ≤ p * max a b := mul_rp (by omega) hp
  have e2 : q * b ≤ q * max a b := mul_rp (by omega) hq
  have e3 : u * (max a b + 1) ≤ u * c := mul_rp (by omega) hu
  have e4 : v * (max a b + 1) ≤ v * d := mul_rp (by omega) hv
  generalize max a b = k at *
  have e5 : p * k + q * k = (u + v) * k := by rw [← Int.add_mul, hs]
  have e6 : u * (k + 1) + v * (k + 1) = (u + v) * k + (u + v) := by grind
  omega
theorem far {s1 s2 s3 s4 a b c d : Int} (hr : s3 - s4 = s2 - s1) (he : -s4 * a + s3 * b = s2 * c + -s1 * d) (ho : s1 ≠ 0 ∨ s2 ≠ 0)
    (m1 : apartB s1 s2) (m2 : apartB s3 s4) (h : (a < c ∧ a < d ∧ b < c ∧ b < d) ∨ (c < a ∧ c < b ∧ d < a ∧ d < b)) : False := by
  unfold apartB at m1 m2
  rcases Int.lt_trichotomy (s2 - s1) 0 with hm | hm | hm
  · rcases h with ⟨h1, h2, h3, h4⟩ | ⟨h1, h2, h3, h4⟩
    · exact weights (p := s4) (q := -s3) (u := -s2) (v := s1) (by omega) (by omega) (by omega) (by omega) (by omega) (by omega) (by grind) h1 h2 h3 h4
    · exact weights (p := -s2) (q := s1) (u := s4) (v := -s3) (by omega) (by omega) (by omega) (by omega) (by omega) (by omega) (by grind) h1 h2 h3 h4
  · omega
  · rcases h with ⟨h1, h2, h3, h4⟩ | ⟨h1, h2, h3, h4⟩
    · exact weights (p := -s4) (q := s3) (u := s2) (v := -s1) (by omega) (by omega) (by omega) (by omega) (by omega) (by omega) he h1 h2 h3 h4
    · exact weights (p := s2) (q := -s1) (u := -s4) (v := s3) (by omega) (by omega) (by omega) (by omega) (by omega) (by omega) he.symm h1 h2 h3 h4
theorem meets_far_y (ho : ovl Ax Ay Bx By Cx Cy Dx Dy = false) (h : (Ay < Cy ∧ Ay < Dy ∧ By < Cy ∧ By < Dy) ∨ (Cy < Ay ∧ Cy < By ∧ Dy < Ay ∧ Dy < By)) : meets Ax Ay Bx By Cx Cy Dx Dy = false := by
  unfold meets
  rw [decide_eq_false_iff_not]
  rintro ⟨m1, m2⟩
  exact far side_rel bary_y (ovl_false ho).1 m1 m2 h
theorem meets_far_x (ho : ovl Ax Ay Bx By Cx Cy Dx Dy = false) (h : (Ax < Cx ∧ Ax < Dx ∧ Bx < Cx ∧ Bx < Dx) ∨ (Cx < Ax ∧ Cx < Bx ∧ Dx < Ax ∧ Dx < Bx)) : meets Ax Ay Bx By Cx Cy Dx Dy = false := by
  unfold meets
  rw [decide_eq_false_iff_not]
  rintro ⟨m1, m2⟩
  exact far side_rel bary_x (ovl_false ho).1 m1 m2 h
theorem apart0 {m n : Int} (h : m = 0 ∨ n = 0) : apartB m n := by unfold apartB; omega
theorem side_a : side Ax Ay Bx By Ax Ay = 0 := by unfold side; grind
theorem side_b : side Ax Ay Bx By Bx By = 0 := by unfold side; grind
theorem meets_end (h : (Ax = Cx ∧ Ay = Cy) ∨ (Ax = Dx ∧ Ay = Dy) ∨ (Bx = Cx ∧ By = Cy) ∨ (Bx = Dx ∧ By = Dy)) : meets Ax Ay Bx By Cx Cy Dx Dy = true := by
  unfold meets
  rw [decide_eq_true_iff]
  rcases h with ⟨rfl, rfl⟩ | ⟨rfl, rfl⟩ | ⟨rfl, rfl⟩ | ⟨rfl, rfl⟩
  · exact ⟨apart0 (.inl side_a), apart0 (.inl side_a)⟩
  · exact ⟨apart0 (.inr side_a), apart0 (.inl side_b)⟩
  · exact ⟨apart0 (.inl side_b), apart0 (.inr side_a)⟩
  · exact ⟨apart0 (.inr side_b), apart0 (.inr side_b)⟩
theorem meets_par (h1 : side Ax Ay Bx By Cx Cy ≠ 0) (h : side Ax Ay Bx By Dx Dy - side Ax Ay Bx By Cx Cy = 0) : meets Ax Ay Bx By Cx Cy Dx Dy = false := by
  unfold meets apartB
  rw [decide_eq_false_iff_not]
  omega
theorem mul_sgn {a m : Int} (h : 0 < m) : 0 ≤ a * m ↔ 0 ≤ a := ⟨fun h' => by
  rcases Int.lt_or_le a 0 with k | k
  · have := Int.mul_neg_of_neg_of_pos k h; omega
  · exact k, fun h' => Int.mul_nonneg h' (Int.le_of_lt h)⟩
theorem mul_sgn' {a m : Int} (h : m < 0) : 0 ≤ a * m ↔ a ≤ 0 := ⟨fun h' => by
  rcases Int.lt_or_le 0 a with k | k
  · have := Int.mul_neg_of_pos_of_neg k h; omega
  · exact k, fun h' => Int.mul_nonneg_of_nonpos_of_nonpos h' (Int.le_of_lt h)⟩
theorem quot_in {n m : Int} (hm : m ≠ 0) : (0 ≤ n * m ∧ n * m ≤ m * m) ↔ apartB n (n - m) := by
  have e : n * m ≤ m * m ↔ 0 ≤ (m - n) * m := by rw [Int.sub_mul]; omega
  rw [e]
  unfold apartB
  rcases Int.lt_or_gt_of_ne hm with h | h
  · rw [mul_sgn' h, mul_sgn' h]; omega
  · rw [mul_sgn h, mul_sgn h]; omega
theorem meets_tu (hm : side Ax Ay Bx By Dx Dy - side Ax Ay Bx By Cx Cy ≠ 0) :
    meets Ax Ay Bx By Cx Cy Dx Dy = decide ((0 ≤ side Cx Cy Dx Dy Ax Ay * (side Ax Ay Bx By Dx Dy - side Ax Ay Bx By Cx Cy) ∧ side Cx Cy Dx Dy Ax Ay * (side Ax Ay Bx By Dx Dy - side Ax Ay Bx By Cx Cy) ≤ (side Ax Ay Bx By Dx Dy - side Ax Ay Bx By Cx Cy) * (side Ax Ay Bx By Dx Dy - side Ax Ay Bx By Cx Cy)) ∧
      0 ≤ -side Ax Ay Bx By Cx Cy * (side Ax Ay Bx By Dx Dy - side Ax Ay Bx By Cx Cy) ∧ -side Ax Ay Bx By Cx Cy * (side Ax Ay Bx By Dx Dy - side Ax Ay Bx By Cx Cy) ≤ (side Ax Ay Bx By Dx Dy - side Ax Ay Bx By Cx Cy) * (side Ax Ay Bx By Dx Dy - side Ax Ay Bx By Cx Cy)) := by
  have hr := side_rel (Ax := Ax) (Ay := Ay) (Bx := Bx) (By := By) (Cx := Cx) (Cy := Cy) (Dx := Dx) (Dy := Dy)
  unfold meets
  apply decide_eq_decide.2
  rw [quot_in hm, quot_in hm]
  unfold apartB
  omega
/-- a part of a whole: s times v is t times u -/
theorem part_in {s t u v : Int} (ht : t ≠ 0) (he : s * v = t * u) (h : (0 ≤ s ∧ s ≤ t) ∨ (t ≤ s ∧ s ≤ 0)) : (0 ≤ u ∧ u ≤ v) ∨ (v ≤ u ∧ u ≤ 0) := by
  rcases h with ⟨h1, h2⟩ | ⟨h1, h2⟩
  · exact on_x (u := u) (v := v) (s := s) (t := t) (by omega) h1 h2 (by rw [Int.mul_comm, he])
  · exact on_x (u := u) (v := v) (s := -s) (t := -t) (by omega) (by omega) (by omega) (by rw [Int.mul_neg, Int.neg_mul, Int.mul_comm, he])
theorem on_iff (h1 : side Ax Ay Bx By Cx Cy = 0) (h2 : side Ax Ay Bx By Dx Dy ≠ 0) : meets Ax Ay Bx By Cx Cy Dx Dy = rcOn Ax Ay Bx By Cx Cy := by
  have hr := side_rel (Ax := Ax) (Ay := Ay) (Bx := Bx) (By := By) (Cx := Cx) (Cy := Cy) (Dx := Dx) (Dy := Dy)
  have hx : side Cx Cy Dx Dy Ax Ay * (Bx - Ax) = side Ax Ay Bx By Dx Dy * (Cx - Ax) := by
    have := bary_x (Ax := Ax) (Ay := Ay) (Bx := Bx) (By := By) (Cx := Cx) (Cy := Cy) (Dx := Dx) (Dy := Dy)
    grind
  have hy : side Cx Cy Dx Dy Ax Ay * (By - Ay) = side Ax Ay Bx By Dx Dy * (Cy - Ay) := by
    have := bary_y (Ax := Ax) (Ay := Ay) (Bx := Bx) (By := By) (Cx := Cx) (Cy := Cy) (Dx := Dx) (Dy := Dy)
    grind
  have hab : Bx - Ax ≠ 0 ∨ By - Ay ≠ 0 := by
    rcases Int.lt_trichotomy (Bx - Ax) 0 with h | h | h
    · exact .inl (by omega)
    · refine .inr fun h' => h2 ?_
      unfold side
      rw [h, h']; simp
    · exact .inl (by omega)
  have hc : (Cx - Ax) * (By - Ay) = (Cy - Ay) * (Bx - Ax) := by
    have := h1
    unfold side at this
    grind
  unfold meets rcOn
  apply decide_eq_decide.2
  rw [h1]
  generalize side Cx Cy Dx Dy Bx By = s4 at *
  generalize side Cx Cy Dx Dy Ax Ay = s3 at *
  generalize side Ax Ay Bx By Dx Dy = s2 at *
  have hs4 : s4 = s3 - s2 := by omega
  subst hs4
  unfold apartB
  constructor
  · rintro ⟨-, h⟩
    have k : (0 ≤ s3 ∧ s3 ≤ s2) ∨ (s2 ≤ s3 ∧ s3 ≤ 0) := by omega
    have kx := part_in h2 hx k
    have ky := part_in h2 hy k
    exact ⟨hc, by omega, by omega⟩
  · rintro ⟨-, kx, ky⟩
    refine ⟨by omega, ?_⟩
    have k : (0 ≤ s3 ∧ s3 ≤ s2) ∨ (s2 ≤ s3 ∧ s3 ≤ 0) := by
      rcases hab with hv | hv
      · exact part_in hv (show (Cx - Ax) * s2 = (Bx - Ax) * s3 by grind) (by omega)
      · exact part_in hv (show (Cy - Ay) * s2 = (By - Ay) * s3 by grind) (by omega)
    omega
theorem on_of (h1 : side Ax Ay Bx By Cx Cy = 0) (h : (Ax < Cx ∧ Cx ≤ Bx) ∨ (Bx < Cx ∧ Cx ≤ Ax) ∨ (Ay < Cy ∧ Cy ≤ By) ∨ (By < Cy ∧ Cy ≤ Ay)) : rcOn Ax Ay Bx By Cx Cy = true := by
  have hc : (Cx - Ax) * (By - Ay) = (Cy - Ay) * (Bx - Ax) := by
    have := h1
    unfold side at this
    grind
  unfold rcOn
  rw [decide_eq_true_iff]
  rcases Int.lt_trichotomy (Bx - Ax) 0 with hx | hx | hx
  · by_cases hbx : Bx ≤ Cx ∧ Cx ≤ Ax
    · have := part_in (s := Cx - Ax) (t := Bx - Ax) (u := Cy - Ay) (v := By - Ay) (by omega) (by grind) (by omega)
      exact ⟨hc, by omega, by omega⟩
    · have := part_in (s := Cy - Ay) (t := By - Ay) (u := Cx - Ax) (v := Bx - Ax) (by omega) (by grind) (by omega)
      exact ⟨hc, by omega, by omega⟩
  · rw [hx, Int.mul_zero] at hc
    rcases Int.mul_eq_zero.1 hc with k | k
    · exact ⟨by rw [hx, k]; simp, by omega, by omega⟩
    · have e1 : ¬ ((Ay < Cy ∧ Cy ≤ By) ∨ (By < Cy ∧ Cy ≤ Ay)) := by omega
      exfalso; omega
  · by_cases hbx : Ax ≤ Cx ∧ Cx ≤ Bx
    · have := part_in (s := Cx - Ax) (t := Bx - Ax) (u := Cy - Ay) (v := By - Ay) (by omega) (by grind) (by omega)
      exact ⟨hc, by omega, by omega⟩
    · have := part_in (s := Cy - Ay) (t := By - Ay) (u := Cx - Ax) (v := Bx - Ax) (by omega) (by grind) (by omega)
      exact ⟨hc, by omega, by omega⟩
theorem on_not (h2 : side Ax Ay Bx By Dx Dy ≠ 0) : rcOn Ax Ay Bx By Dx Dy = false := by
  unfold rcOn
  rw [decide_eq_false_iff_not]
  rintro ⟨h, -⟩
  apply h2
  unfold side
  grind
end
end PF
set_option linter.unusedSimpArgs false
set_option linter.unusedVariables false
/-! Two segments, turned, scaled and moved, or with their ends exchanged: plain facts. -/
namespace PF
section
variable {K S DX DY : Int} {a b c d p : Int × Int}
end
section
variable {Ax Ay Bx By Cx Cy Dx Dy : Int}
theorem side_swap : side Bx By Ax Ay Cx Cy = -side Ax Ay Bx By Cx Cy := by unfold side; grind
theorem apart_neg {m n : Int} : apartB (-m) (-n) ↔ apartB m n := by unfold apartB; omega
theorem apart_comm {m n : Int} : apartB m n ↔ apartB n m := by unfold apartB; omega
theorem meets_swap : meets Bx By Ax Ay Cx Cy Dx Dy = meets Ax Ay Bx By Cx Cy Dx Dy := by
  unfold meets
  apply decide_eq_decide.2
  rw [side_swap (Cx := Cx) (Cy := Cy), side_swap (Cx := Dx) (Cy := Dy), apart_neg, apart_comm (m := side Cx Cy Dx Dy Bx By)]
end
section
variable {K S DX DY Ax Ay Bx By : Int}
end
end PF
