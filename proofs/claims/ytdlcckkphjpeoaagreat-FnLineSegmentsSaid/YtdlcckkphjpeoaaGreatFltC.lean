import Derived.Test.YtdlcckkphjpeoaaGreatFltB
set_option linter.unusedSimpArgs false
set_option linter.unusedVariables false
namespace PF
open Ieee Go

theorem U_pow (k : Int) (hk : k = 1074) : 2 ^ k.toNat = U := by
  rw [U_def]
  exact congrArg (2 ^ ·) (by rw [e74_eq]; omega)

/-- the word of a whole number -/
def fb (n : Int) : Nat := floatOfInt .f64 n

theorem fb_def (n : Int) : fb n = double.nearest (n < 0) n.natAbs 0 := rfl

theorem fb_word (n : Int) (hn : n.natAbs ≤ 9007199254740992) : ∃ r, fb n = double.word (decide (n < 0)) r ∧ sv r = n.natAbs * U ∧ r < 9218868437227405312 := by
  rw [fb_def]
  by_cases h0 : n = 0
  · subst h0
    refine ⟨0, ?_, ?_, by omega⟩
    · unfold Format.nearest; rw [if_pos Int.natAbs_zero]
    · rw [sv_zero]; simp
  · obtain ⟨r, hr, hR⟩ := nearest_rnd (decide (n < 0)) n.natAbs 0 (by omega)
    rw [U_pow (0 + 1074) (by omega), show (-((0 : Int) + 1074)).toNat = 0 from rfl, Nat.pow_zero] at hR
    have := Rep.of_rnd (s := decide (n < 0)) (n := n) (by omega) hR (by rw [Nat.mul_one]) hn (fun _ => rfl)
    exact ⟨r, hr, this.2.1, this.2.2⟩

theorem fb_rep (n : Int) (hn : n.natAbs ≤ 9007199254740992) : Rep (fb n) n := by
  obtain ⟨r, h1, h2, h3⟩ := fb_word n hn
  rw [h1]
  exact (Rep.of_rnd (by omega) (Rnd.exact (Nat.le_of_lt h3)) (by rw [h2, Nat.mul_one]) hn (fun _ => rfl)).1

/-- a word that stands for a whole number other than 0 is that number's word -/
theorem Rep.eq_fb {x : Nat} {n : Int} (h : Rep x n) (h0 : n ≠ 0) : x = fb n := by
  obtain ⟨r, h1, h2, h3⟩ := fb_word n h.bd
  rw [h1, fin_word h.fin]
  have hv : sgn (x / 9223372036854775808 % 2 == 1) (sv (x % 9223372036854775808)) = n * U := h.val
  rw [sgn_sign hv h0]
  congr 1
  exact sv_inj ((sgn_abs hv).trans h2.symm)

theorem sum_fb (a b : Int) (ha : a.natAbs ≤ 9007199254740992) (hb : b.natAbs ≤ 9007199254740992) (hab : (a + b).natAbs ≤ 9007199254740992) :
    double.add (fb a) (fb b) = some (fb (a + b)) := by
  by_cases h0 : a + b = 0
  · obtain ⟨ra, h1, h2, h3⟩ := fb_word a ha
    obtain ⟨rb, k1, k2, k3⟩ := fb_word b hb
    have fa := (fb_rep a ha).fin
    have fb' := (fb_rep b hb).fin
    obtain ⟨m, i, ex, hi, _, vx⟩ := read_fin fa
    obtain ⟨n, j, ey, hj, _, vy⟩ := read_fin fb'
    unfold Format.add
    rw [ex, ey]
    obtain ⟨q, r, e1, _, _, e4⟩ := sum_fin hi hj (a := a * U) (b := b * U) (by rw [vx]; exact (fb_rep a ha).val) (by rw [vy]; exact (fb_rep b hb).val)
    rw [e1]
    have hz : a * (U : Int) + b * U = 0 := by rw [← Int.add_mul, h0]; simp
    obtain ⟨e5, e6⟩ := e4 hz
    rw [e5, e6, h1, k1, word_sign (Nat.le_of_lt h3), word_sign (Nat.le_of_lt k3), h0]
    have : (decide (a < 0) && decide (b < 0)) = false := by
      by_cases h : a < 0
      · have : ¬ b < 0 := by omega
        simp [this]
      · simp [h]
    rw [this]
    rfl
  · obtain ⟨r, h1, h2⟩ := add_rep (fb_rep a ha) (fb_rep b hb) hab
    rw [h1, h2.eq_fb h0]

theorem toInt_rep {x : Nat} {n : Int} (h : Rep x n) : floatToIntVal .f64 x .i64 = some n := by
  unfold floatToIntVal
  obtain ⟨m, i, ex, hi, hm, vx⟩ := read_fin h.fin
  have hd : FloatKind.f64.decode x = .number (x / 9223372036854775808 % 2 == 1) m i := ex
  rw [hd]
  have hv : sgn (x / 9223372036854775808 % 2 == 1) (m * 2 ^ (i + 1074).toNat) = n * U := by rw [vx]; exact h.val
  have ha := sgn_abs hv
  have hcut : Toward.zero.cut (x / 9223372036854775808 % 2 == 1) (m <<< i.toNat) (-i).toNat = n.natAbs := by
    unfold Toward.cut
    simp only [Bool.toNat_false, Nat.add_zero, Nat.shiftLeft_eq, Nat.one_mul]
    have hp : 2 ^ (i + 1074).toNat * 2 ^ (-i).toNat = U * 2 ^ i.toNat := by
      rw [← U_pow 1074 rfl, ← Nat.pow_add, ← Nat.pow_add]
      exact congrArg (2 ^ ·) (by omega)
    have key : m * 2 ^ i.toNat = n.natAbs * 2 ^ (-i).toNat := by
      have : m * 2 ^ i.toNat * U = n.natAbs * 2 ^ (-i).toNat * U := by
        calc m * 2 ^ i.toNat * U = m * (U * 2 ^ i.toNat) := by ac_rfl
          _ = m * (2 ^ (i + 1074).toNat * 2 ^ (-i).toNat) := by rw [hp]
          _ = m * 2 ^ (i + 1074).toNat * 2 ^ (-i).toNat := by ac_rfl
          _ = n.natAbs * U * 2 ^ (-i).toNat := by rw [ha]
          _ = _ := by ac_rfl
      exact Nat.eq_of_mul_eq_mul_right U_pos this
    rw [key]
    by_cases hle : (-i).toNat ≤ (n.natAbs * 2 ^ (-i).toNat).log2 + 2
    · rw [Nat.min_eq_left hle]
      exact Nat.mul_div_cancel _ (Nat.two_pow_pos _)
    · rw [Nat.min_eq_right (by omega)]
      have hlt : n.natAbs * 2 ^ (-i).toNat < 2 ^ ((n.natAbs * 2 ^ (-i).toNat).log2 + 1) := Nat.lt_log2_self
      have hz : n.natAbs = 0 := by
        rcases Nat.eq_zero_or_pos n.natAbs with h0 | h0
        · exact h0
        · exfalso
          have h1 : 2 ^ (-i).toNat ≤ n.natAbs * 2 ^ (-i).toNat := Nat.le_mul_of_pos_left _ h0
          have h2 : 2 ^ ((n.natAbs * 2 ^ (-i).toNat).log2 + 1) ≤ 2 ^ (-i).toNat := pow_le_of (by omega)
          omega
      rw [hz, Nat.zero_mul, Nat.zero_div]
  unfold Datum.toInt Datum.integral
  simp only [hcut]
  have hs : signed (x / 9223372036854775808 % 2 == 1) n.natAbs 0 = n := by
    rw [signed_eq, Nat.pow_zero, Nat.mul_one]
    by_cases h0 : n = 0
    · subst h0; cases (x / 9223372036854775808 % 2 == 1) <;> simp [sgn]
    · rw [sgn_sign hv h0]
      unfold sgn
      by_cases hneg : n < 0
      · rw [if_pos (by simpa using hneg)]; omega
      · rw [if_neg (by simpa using hneg)]; omega
  rw [hs]
  have hb := h.bd
  have hr : IntKind.i64.min ≤ n ∧ n ≤ IntKind.i64.max := by
    have h1 : IntKind.i64.min = -9223372036854775808 := by decide
    have h2 : IntKind.i64.max = 9223372036854775807 := by decide
    rw [h1, h2]; omega
  rw [if_pos hr]


/-! ### quotients -/

/-- x is a whole number's quotient, rounded -/
def Quo (x : Nat) (a b : Int) : Prop :=
  ∃ s q, x = double.word s q ∧ Rnd q (a.natAbs * U) b.natAbs ∧ (a ≠ 0 → s = (decide (a < 0) ^^ decide (b < 0)))

theorem div_rep {x y : Nat} {a b : Int} (hx : Rep x a) (hy : Rep y b) (hb : b ≠ 0) : ∃ w, double.div x y = some w ∧ Quo w a b := by
  obtain ⟨m, i, ex, hi, hm, vx⟩ := read_fin hx.fin
  obtain ⟨n, j, ey, hj, hn, vy⟩ := read_fin hy.fin
  have ea := sgn_abs hx.val
  have eb := sgn_abs hy.val
  have hB : 0 < b.natAbs := by omega
  have hn0 : n ≠ 0 := by
    intro h; subst h
    rw [← vy, Nat.zero_mul] at eb
    have := Nat.mul_pos hB U_pos
    omega
  unfold Format.div
  rw [ex, ey, d_frac]
  by_cases ha : a = 0
  · subst ha
    have hm0 : m = 0 := by
      have h1 : m * 2 ^ (i + 1074).toNat = 0 := by rw [vx, ea]; simp
      rcases Nat.mul_eq_zero.1 h1 with h | h
      · exact h
      · have := Nat.two_pow_pos (i + 1074).toNat; omega
    subst hm0
    refine ⟨_, ?_, (x / 9223372036854775808 % 2 == 1) ^^ (y / 9223372036854775808 % 2 == 1), 0, rfl, ?_, fun h => absurd rfl h⟩
    · unfold Datum.quotient
      dsimp only
      rw [if_neg hn0, Option.map_some]
      unfold Format.write
      dsimp only
      rw [Nat.zero_shiftLeft, Nat.zero_div, Nat.zero_mod]
      unfold Format.nearest
      rw [if_pos (by simp)]
    · exact Rnd.same (by omega) hB (by rw [sv_zero]; simp) (Rnd.exact (r := 0) (by omega))
  · have hA : 0 < a.natAbs := by omega
    have hm0 : m ≠ 0 := by
      intro h; subst h
      rw [← vx, Nat.zero_mul] at ea
      have := Nat.mul_pos hA U_pos
      omega
    obtain ⟨r, h1, h2⟩ := quotient_fin (s := x / 9223372036854775808 % 2 == 1) (t := y / 9223372036854775808 % 2 == 1) hi hj hm0 hn0 hm vx vy e74 e74_int
    rw [← U_def, ea, eb] at h2
    refine ⟨_, h1, _, r, rfl, Rnd.same (Nat.mul_pos hB U_pos) hB ?_ h2, fun _ => ?_⟩
    · ac_rfl
    · rw [sgn_sign hx.val ha, sgn_sign hy.val hb]

/-- a quotient by nought of what is not nought is an infinity -/
theorem div_zero {x y : Nat} {a : Int} (hx : Rep x a) (hy : Rep y 0) (ha : a ≠ 0) :
    double.div x y = some (double.word (x / 9223372036854775808 % 2 == 1 ^^ y / 9223372036854775808 % 2 == 1) 9218868437227405312) := by
  obtain ⟨m, i, ex, hi, hm, vx⟩ := read_fin hx.fin
  obtain ⟨n, j, ey, hj, hn, vy⟩ := read_fin hy.fin
  have ea := sgn_abs hx.val
  have eb := sgn_abs hy.val
  have hA : 0 < a.natAbs := by omega
  have hn0 : n = 0 := by
    have h1 : n * 2 ^ (j + 1074).toNat = 0 := by rw [vy, eb]; simp
    rcases Nat.mul_eq_zero.1 h1 with h | h
    · exact h
    · have := Nat.two_pow_pos (j + 1074).toNat; omega
  have hm0 : m ≠ 0 := by
    intro h; subst h
    rw [← vx, Nat.zero_mul] at ea
    have := Nat.mul_pos hA U_pos
    omega
  subst hn0
  unfold Format.div
  rw [ex, ey]
  unfold Datum.quotient
  dsimp only
  rw [if_pos rfl, if_neg hm0, Option.map_some]
  unfold Format.write
  dsimp only
  rw [d_inf]

theorem div_nan {x y : Nat} (hx : Rep x 0) (hy : Rep y 0) : double.div x y = none := by
  obtain ⟨m, i, ex, hi, hm, vx⟩ := read_fin hx.fin
  obtain ⟨n, j, ey, hj, hn, vy⟩ := read_fin hy.fin
  have ea := sgn_abs hx.val
  have eb := sgn_abs hy.val
  have hn0 : n = 0 := by
    have h1 : n * 2 ^ (j + 1074).toNat = 0 := by rw [vy, eb]; simp
    rcases Nat.mul_eq_zero.1 h1 with h | h
    · exact h
    · have := Nat.two_pow_pos (j + 1074).toNat; omega
  have hm0 : m = 0 := by
    have h1 : m * 2 ^ (i + 1074).toNat = 0 := by rw [vx, ea]; simp
    rcases Nat.mul_eq_zero.1 h1 with h | h
    · exact h
    · have := Nat.two_pow_pos (i + 1074).toNat; omega
  subst hn0; subst hm0
  unfold Format.div
  rw [ex, ey]
  unfold Datum.quotient
  dsimp only
  rw [if_pos rfl, if_pos rfl]
  rfl

theorem U_big : 1606938044258990275541962092341162602522202993782792835301376 ≤ U := by
  rw [U_def]
  have h : 2 ^ 200 ≤ 2 ^ e74 := pow_le_of (by rw [e74_eq]; omega)
  exact h

/-- a quotient's rung is finite -/
theorem quo_lt {q p b : Nat} (hb : 0 < b) (hp : p ≤ 9007199254740992) (h : Rnd q (p * U) b) : q < 9218868437227405312 := by
  obtain ⟨r, h1, h2⟩ := rep_rung p hp
  have := Rnd.mono hb (by omega) (by rw [Nat.mul_one, h1]; exact Nat.le_mul_of_pos_right _ hb) h (Rnd.exact (Nat.le_of_lt h2))
  omega

/-- what a rounded quotient is worth, from above and from below -/
theorem rnd_bounds {q A B : Nat} (h : Rnd q A B) (hq : q < 9218868437227405312) :
    (0 < q → (sv (q - 1) + sv q) * B ≤ 2 * A) ∧ 2 * A ≤ (sv q + sv (q + 1)) * B := by
  constructor
  · intro h0
    have h1 := (h.2 (q - 1) (by omega)).1 (by omega)
    unfold above at h1
    rw [show q - 1 + 1 = q from by omega] at h1
    omega
  · have h1 : ¬ above q A B := fun h' => by have := (h.2 q hq).2 h'; omega
    unfold above at h1
    omega

/-- quotients of small numbers that differ are rounded to different words -/
theorem quo_strict {q p b q' r d : Nat} (hb : 0 < b) (hd : 0 < d) (hpb : p < 2147483648) (hbb : b < 2147483648) (hdb : d < 2147483648) (hrb : r < 2147483648)
    (h : Rnd q (p * U) b) (h' : Rnd q' (r * U) d) (hlt : p * d < r * b) (hpd : p * d < 140737488355328) : q < q' := by
  rcases Nat.lt_or_ge q q' with hh | hh
  · exact hh
  · exfalso
    have f1 := quo_lt hb (by omega) h
    have f2 := quo_lt hd (by omega) h'
    have b2 := (rnd_bounds h' f2).2
    -- q' ≤ q: below the midpoint under q' there is room for p / b
    have hp0 : q' = 0 ∨ (sv (q' - 1) + sv q') * b ≤ 2 * (p * U) := by
      rcases Nat.eq_zero_or_pos q' with h0 | h0
      · exact .inl h0
      · right
        have h1 := (rnd_bounds h f1).1 (by omega)
        have h2 := sv_le (show q' - 1 ≤ q - 1 from by omega)
        have h3 := sv_le hh
        have : (sv (q' - 1) + sv q') * b ≤ (sv (q - 1) + sv q) * b := Nat.mul_le_mul_right _ (by omega)
        omega
    have hU := U_big
    obtain ⟨y, hy, _, gy⟩ := sv_gap q'
    -- all over b and d
    have e1 : 2 * (r * U) * b ≤ (sv q' + sv (q' + 1)) * d * b := Nat.mul_le_mul_right _ b2
    have hq0 : 0 < q' := by
      rcases Nat.eq_zero_or_pos q' with h0 | h0
      · exfalso
        subst h0
        have : sv (0 + 1) = 1 := sv_small (by omega)
        rw [this, sv_zero] at b2
        have hr0 : 0 < r := by
          rcases Nat.eq_zero_or_pos r with h | h
          · subst h; omega
          · exact h
        have : U ≤ r * U := Nat.le_mul_of_pos_left _ hr0
        omega
      · exact h0
    rcases hp0 with h0 | hp0
    · omega
    obtain ⟨x, hx, _, gx⟩ := sv_gap (q' - 1)
    rw [show q' - 1 + 1 = q' from by omega] at hx
    rw [hy] at e1
    have e2 : (sv q' + sv q' - x) * b * d ≤ 2 * (p * U) * d := Nat.mul_le_mul_right _ (by
      have : sv (q' - 1) + sv q' = sv q' + sv q' - x := by omega
      rw [← this]; exact hp0)
    have hxv : x ≤ sv q' := by omega
    have gx' : x * 4503599627370496 ≤ 4503599627370496 + sv q' := Nat.le_trans gx (Nat.add_le_add_left (by rw [hx]; exact Nat.le_add_right _ _) _)
    generalize sv q' = v at *
    clear b2 hp0 hx hy f1 f2 h h' hh
    -- 2 U (r b - p d) ≤ (x + y) b d
    have e3 : 2 * (r * U) * b ≤ 2 * (p * U) * d + (x + y) * (b * d) := by
      have h1 : (v + (v + y)) * d * b = (v + v - x) * b * d + (x + y) * (b * d) := by
        obtain ⟨z, hz⟩ : ∃ z, v + v = z + x := ⟨v + v - x, by omega⟩
        rw [show v + (v + y) = z + (x + y) from by omega, show v + v - x = z from by omega, Nat.add_mul, Nat.add_mul]
        congr 1 <;> ac_rfl
      omega
    have e4 : 2 * (r * U) * b = 2 * U * (r * b) := by ac_rfl
    have e5 : 2 * (p * U) * d = 2 * U * (p * d) := by ac_rfl
    rw [e4, e5] at e3
    have e6 : 2 * U * (p * d) + 2 * U ≤ 2 * U * (r * b) := by
      have := Nat.mul_le_mul_left (2 * U) hlt
      rw [Nat.mul_succ] at this; exact this
    have e7 : 2 * U ≤ (x + y) * (b * d) := by omega
    -- (x + y) 2 ^ 52 ≤ 2 ^ 53 + 2 v
    have e8 : (x + y) * 4503599627370496 ≤ 9007199254740992 + 2 * v := by
      rw [Nat.add_mul]
      refine Nat.le_trans (Nat.add_le_add gx' gy) (Nat.le_of_eq ?_)
      rw [Nat.two_mul]; clear e7 e6 e5 e4 e3 e2 e1 gx gx' gy; omega
    have e9 : 2 * U * 4503599627370496 ≤ (9007199254740992 + 2 * v) * (b * d) := by
      have h1 := Nat.mul_le_mul_right 4503599627370496 e7
      have h2 := Nat.mul_le_mul_right (b * d) e8
      rw [Nat.mul_right_comm] at h2
      exact Nat.le_trans h1 h2
    have e10 : v * (b * d) ≤ 2 * U * (p * d) := by
      have h1 : v * b * d ≤ (v + v - x) * b * d := Nat.mul_le_mul_right _ (Nat.mul_le_mul_right _ (by omega))
      rw [← Nat.mul_assoc]; omega
    have e11 : b * d ≤ 2147483648 * 2147483648 := Nat.mul_le_mul (by omega) (by omega)
    have e12 : (9007199254740992 + 2 * v) * (b * d) = 9007199254740992 * (b * d) + 2 * (v * (b * d)) := by rw [Nat.add_mul, Nat.mul_assoc]
    have e13 : 2 * U * (p * d) ≤ 2 * U * 140737488355328 := Nat.mul_le_mul_left _ (by omega)
    omega

theorem quo_same {q p b q' r d : Nat} (hb : 0 < b) (hd : 0 < d) (h : Rnd q (p * U) b) (h' : Rnd q' (r * U) d) (he : p * d = r * b) : q = q' :=
  Rnd.uniq hb hd (by rw [Nat.mul_right_comm, he, Nat.mul_right_comm]) h h'

end PF
