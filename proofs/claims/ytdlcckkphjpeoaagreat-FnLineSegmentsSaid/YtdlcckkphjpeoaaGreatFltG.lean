import Derived.Test.YtdlcckkphjpeoaaGreatFltF
set_option linter.unusedSimpArgs false
set_option linter.unusedVariables false
namespace PF
open Ieee Go

/-- the sign and the rung of a product with a reciprocal -/
theorem Rcp.val {x : Nat} {n m : Int} (h : Rcp x n m) (hm : m ≠ 0) (hmb : m.natAbs < 2147483648) (hnb : n.natAbs < 2147483648) :
    Fin x ∧ ∃ r q, Rnd q (1 * U) m.natAbs ∧ Rnd r (n.natAbs * sv q) 1 ∧ (n = 0 → V x = 0) ∧ (0 < n * m → V x = sv r ∧ 0 < sv r) ∧ (n * m < 0 → V x < 0) := by
  obtain ⟨s, r, q, h1, h2, h3, h4⟩ := h
  have hq := quo_pos (by omega) (by omega) (by omega) hmb h2
  have hr := rcp_fin (by omega) hnb h2 h3
  have hqs := le_sv q
  have hV : V x = sgn s (sv r) := by rw [h1, word_V (Nat.le_of_lt hr)]
  refine ⟨by rw [h1]; exact word_fin hr, r, q, h2, h3, ?_, ?_, ?_⟩
  · intro h0
    subst h0
    have : r = 0 := by
      have e0 := Rnd.exact (r := 0) (by omega)
      rw [sv_zero] at e0
      rw [Int.natAbs_zero, Nat.zero_mul] at h3
      exact Rnd.uniq (by omega) (by omega) rfl h3 e0
    subst this
    rw [hV, sv_zero]
    cases s <;> rfl
  all_goals
    intro hp
    have h0 : n ≠ 0 := fun h => by rw [h, Int.zero_mul] at hp; omega
    have hr1 : 1 ≤ r := by
      have e1 := Rnd.exact (r := 1) (by omega)
      rw [sv_small (by omega)] at e1
      refine Rnd.mono (by omega) (by omega) ?_ e1 h3
      have : 1 * 1 ≤ n.natAbs * sv q := Nat.mul_le_mul (by omega) (by omega)
      omega
    have hrs := le_sv r
    rw [h4 h0] at hV
    rw [hV]
  · have hs : (decide (n < 0) ^^ decide (m < 0)) = false := by
      rcases Int.lt_or_gt_of_ne h0 with p1 | p1 <;> rcases Int.lt_or_gt_of_ne hm with p2 | p2
      · simp [p1, p2]
      · have := Int.mul_neg_of_neg_of_pos p1 p2; omega
      · have := Int.mul_neg_of_pos_of_neg p1 p2; omega
      · have e2 : ¬ n < 0 := by omega
        have e3 : ¬ m < 0 := by omega
        simp [e2, e3]
    rw [hs]
    exact ⟨rfl, by omega⟩
  · have hs : (decide (n < 0) ^^ decide (m < 0)) = true := by
      rcases Int.lt_or_gt_of_ne h0 with p1 | p1 <;> rcases Int.lt_or_gt_of_ne hm with p2 | p2
      · have := Int.mul_pos_of_neg_of_neg p1 p2; omega
      · have e3 : ¬ m < 0 := by omega
        simp [p1, e3]
      · have e2 : ¬ n < 0 := by omega
        simp [e2, p2]
      · have := Int.mul_pos p1 p2; omega
    rw [hs]
    show -(sv r : Int) < 0
    omega

theorem cmp_ge {a b : Int} : (some (compare a b) = some Ordering.gt ∨ some (compare a b) = some Ordering.eq) ↔ b ≤ a := by
  simp only [compare, compareOfLessAndEq]
  by_cases h1 : a < b
  · simp [h1]
  · by_cases h2 : a = b
    · simp [h2]
    · simp [h1, h2]; omega

theorem cmp_le {a b : Int} : (some (compare a b) = some Ordering.lt ∨ some (compare a b) = some Ordering.eq) ↔ a ≤ b := by
  simp only [compare, compareOfLessAndEq]
  by_cases h1 : a < b
  · simp [h1]; omega
  · by_cases h2 : a = b
    · simp [h2]
    · simp [h1, h2]; omega

theorem cmp_lt {a b : Int} : some (compare a b) = some Ordering.lt ↔ a < b := by
  simp only [compare, compareOfLessAndEq]
  by_cases h1 : a < b
  · simp [h1]
  · by_cases h2 : a = b
    · simp [h2]
    · simp [h1, h2]

theorem cmp_gt {a b : Int} : some (compare a b) = some Ordering.gt ↔ b < a := by
  simp only [compare, compareOfLessAndEq]
  by_cases h1 : a < b
  · simp [h1]; omega
  · by_cases h2 : a = b
    · simp [h2]
    · simp [h1, h2]; omega

theorem cmp_eq {a b : Int} : some (compare a b) = some Ordering.eq ↔ a = b := by
  simp only [compare, compareOfLessAndEq]
  by_cases h1 : a < b
  · simp [h1]; omega
  · by_cases h2 : a = b
    · simp [h2]
    · simp [h1, h2]

/-- against nought -/
theorem Rcp.ge_zero {x z : Nat} {n m : Int} (h : Rcp x n m) (hz : Rep z 0) (hm : m ≠ 0) (hmb : m.natAbs < 2147483648) (hnb : n.natAbs < 2147483648) :
    (double.order x z = some .gt ∨ double.order x z = some .eq) ↔ 0 ≤ n * m := by
  obtain ⟨f, r, q, _, _, c1, c2, c3⟩ := h.val hm hmb hnb
  rw [order_fin f hz.fin, cmp_ge, hz.val, Int.zero_mul]
  by_cases h0 : n = 0
  · rw [c1 h0, h0]; simp
  · rcases Int.lt_or_gt_of_ne (Int.mul_ne_zero h0 hm) with p | p
    · have := c3 p; omega
    · have := c2 p; omega

/-- against one -/
theorem Rcp.le_one {x z : Nat} {n m : Int} (h : Rcp x n m) (hz : Rep z 1) (hm : m ≠ 0) (hmb : m.natAbs < 2147483648) (hnb : n.natAbs < 2147483648) :
    (double.order x z = some .lt ∨ double.order x z = some .eq) ↔ n * m ≤ m * m := by
  obtain ⟨f, r, q, a1, a2, c1, c2, c3⟩ := h.val hm hmb hnb
  have hU := U_pos
  have hmm : 0 < m * m := by
    rcases Int.lt_or_gt_of_ne hm with p | p
    · exact Int.mul_pos_of_neg_of_neg p p
    · exact Int.mul_pos p p
  rw [order_fin f hz.fin, cmp_le, hz.val, Int.one_mul]
  by_cases h0 : n = 0
  · rw [c1 h0, h0, Int.zero_mul]; omega
  · rcases Int.lt_or_gt_of_ne (Int.mul_ne_zero h0 hm) with p | p
    · have := c3 p; omega
    · obtain ⟨e1, e2⟩ := c2 p
      rw [e1]
      obtain ⟨r1, g, o1, _, _, _, o5⟩ := rung_one
      have h1 := rcp_one (by omega) hmb a1 a2 o1
      have h2 : (sv r : Int) ≤ U ↔ r ≤ r1 := by
        rw [← o1]
        constructor
        · intro h
          rcases Nat.lt_or_ge r1 r with h' | h'
          · have := sv_lt h'; omega
          · exact h'
        · intro h; exact_mod_cast sv_le h
      rw [h2, h1]
      have e3 : n * m = ((n.natAbs * m.natAbs : Nat) : Int) := by
        rw [← Int.natAbs_mul]; omega
      have e4 : m * m = ((m.natAbs * m.natAbs : Nat) : Int) := by
        rw [← Int.natAbs_mul]; omega
      rw [e3, e4, Int.ofNat_le]
      exact ⟨fun h => Nat.mul_le_mul_right _ h, fun h => Nat.le_of_mul_le_mul_right h (by omega)⟩

/-! ### halves -/

/-- the word x stands for n / 2 -/
structure Half (x : Nat) (n : Int) : Prop where
  fin : Fin x
  val : 2 * V x = n * U
  sg : n ≠ 0 → (x / 9223372036854775808 % 2 == 1) = decide (n < 0)

theorem half_rep {x y : Nat} {n : Int} (hx : Rep x n) (hy : Rep y 2) (hn : n.natAbs < 1073741824) : ∃ w, double.div x y = some w ∧ Half w n := by
  obtain ⟨w, h1, s, q, h2, h3, h4⟩ := div_rep hx hy (by omega)
  have hq := quo_lt (by omega) (by omega) h3
  obtain ⟨r, t1, t2⟩ := rep (e74 - 1) n.natAbs (by omega)
  have e1 : sv r * 2 = n.natAbs * U := by
    rw [t1, U_def, Nat.mul_assoc, ← Nat.pow_succ]
    exact congrArg (n.natAbs * 2 ^ ·) (by rw [e74_eq])
  have hqr : q = r := Rnd.uniq (by omega) (by omega) (by rw [Nat.mul_one]; exact e1.symm) h3 (Rnd.exact (by rw [e74_eq] at t2; omega))
  subst hqr
  refine ⟨w, h1, by rw [h2]; exact word_fin hq, ?_, ?_⟩
  · rw [h2, word_V (Nat.le_of_lt hq)]
    by_cases h0 : n = 0
    · subst h0
      have : sv q = 0 := by rw [Int.natAbs_zero, Nat.zero_mul] at e1; omega
      rw [this]; cases s <;> simp [sgn]
    · rw [h4 h0]
      rcases Int.lt_or_gt_of_ne h0 with p | p
      · have e3 : n * (U : Int) = -((n.natAbs * U : Nat) : Int) := by
          rw [Int.natCast_mul, show ((n.natAbs : Nat) : Int) = -n from by omega, Int.neg_mul, Int.neg_neg]
        rw [e3, ← e1]
        have : ¬ (2 : Int) < 0 := by omega
        simp [p, sgn]
        omega
      · have e3 : n * (U : Int) = ((n.natAbs * U : Nat) : Int) := by
          rw [Int.natCast_mul, show ((n.natAbs : Nat) : Int) = n from by omega]
        rw [e3, ← e1]
        have : ¬ n < 0 := by omega
        simp [this, sgn]
        omega
  · intro h0
    rw [h2, word_sign (Nat.le_of_lt hq), h4 h0]
    simp

theorem twice_half {x y : Nat} {n : Int} (hx : Rep x 2) (hy : Half y n) (hn : n.natAbs < 1073741824) : ∃ w, double.mul x y = some w ∧ Rep w n := by
  obtain ⟨k, i, ex, hi, _, vx⟩ := read_fin hx.fin
  obtain ⟨l, j, ey, hj, _, vy⟩ := read_fin hy.fin
  unfold Format.mul
  rw [ex, ey]
  obtain ⟨r, e1, e2⟩ := product_fin (s := x / 9223372036854775808 % 2 == 1) (t := y / 9223372036854775808 % 2 == 1) hi hj vx vy e74 e74_int
  have ea := sgn_abs hx.val
  have eb : 2 * sv (y % 9223372036854775808) = n.natAbs * U := by
    have h1 := congrArg Int.natAbs hy.val
    rw [Int.natAbs_mul, Int.natAbs_mul] at h1
    unfold V at h1
    rw [sgn_natAbs] at h1
    exact h1
  rw [ea, ← U_def] at e2
  refine ⟨_, e1, (Rep.of_rnd U_pos e2 ?_ (by omega) fun h0 => ?_).1⟩
  · show 2 * U * sv (y % 9223372036854775808) = n.natAbs * U * U
    rw [← eb]; ac_rfl
  · rw [sgn_sign hx.val (by omega), hy.sg h0]
    have : ¬ (2 : Int) < 0 := by omega
    simp
end PF
