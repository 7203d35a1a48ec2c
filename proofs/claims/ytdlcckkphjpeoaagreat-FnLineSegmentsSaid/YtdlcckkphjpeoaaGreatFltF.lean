import Derived.Test.YtdlcckkphjpeoaaGreatFltE
set_option linter.unusedSimpArgs false
set_option linter.unusedVariables false
namespace PF
open Ieee Go

theorem quo_large32 {q b : Nat} (hb : 0 < b) (hbb : b < 4294967296) (h : Rnd q (1 * U) b) : U ≤ sv q * 4294967296 := by
  obtain ⟨r, h1, h2⟩ := rep (e74 - 32) 1 (by omega)
  have e1 : sv r * 4294967296 = U := by
    rw [h1, U_def, Nat.one_mul, show (4294967296 : Nat) = 2 ^ 32 from rfl, ← Nat.pow_add]
    exact congrArg (2 ^ ·) (by rw [e74_eq])
  have e2 : r < 9218868437227405312 := by rw [e74_eq] at h2; omega
  have hr : r ≤ q := by
    refine Rnd.mono (by omega) hb ?_ (Rnd.exact (Nat.le_of_lt e2)) h
    rw [Nat.mul_one, Nat.one_mul]
    have h5 : sv r * b ≤ sv r * 4294967296 := Nat.mul_le_mul_left _ (by omega)
    omega
  have := sv_le hr
  omega

/-- the rung of 1, and the next -/
theorem rung_one : ∃ r g, sv r = U ∧ sv (r + 1) = U + g ∧ U = 4503599627370496 * g ∧ 0 < g ∧ r < 9218868437227405312 := by
  refine ⟨(e74 - 52) * 4503599627370496 + 4503599627370496, 2 ^ (e74 - 52), ?_, ?_, ?_, Nat.two_pow_pos _, by rw [e74_eq]; omega⟩
  · rw [sv_at (by omega) (fun _ => by omega), U_def, show (4503599627370496 : Nat) = 2 ^ 52 from rfl, ← Nat.pow_add]
    exact congrArg (2 ^ ·) (by rw [e74_eq])
  · rw [Nat.add_assoc, sv_at (by omega) (fun _ => by omega), U_def, Nat.add_mul, Nat.one_mul]
    congr 1
    rw [show (4503599627370496 : Nat) = 2 ^ 52 from rfl, ← Nat.pow_add]
    exact congrArg (2 ^ ·) (by rw [e74_eq])
  · rw [U_def, show (4503599627370496 : Nat) = 2 ^ 52 from rfl, ← Nat.pow_add]
    exact congrArg (2 ^ ·) (by rw [e74_eq])

/-- the gap below a rung that is not among the least -/
theorem sv_gap_below {q : Nat} (h : 4503599627370496 < q) : ∃ x, sv q = sv (q - 1) + x ∧ 0 < x ∧ x * 4503599627370497 ≤ sv q := by
  have m0 := sv_lt (show q - 1 < q from by omega)
  obtain ⟨e, f, hf, rfl⟩ := split_rung q (by omega)
  rcases Nat.eq_zero_or_pos f with h0 | h0
  · subst h0
    obtain ⟨d, rfl⟩ : ∃ d, e = d + 1 := ⟨e - 1, by omega⟩
    have e1 : (d + 1 + 1) * 4503599627370496 + 0 - 1 = (d + 1) * 4503599627370496 + 4503599627370495 := by omega
    rw [e1, sv_split _ _ (by omega), sv_split _ _ (by omega), Nat.pow_succ]
    refine ⟨2 ^ d, ?_, Nat.two_pow_pos d, ?_⟩ <;> omega
  · have e1 : (e + 1) * 4503599627370496 + f - 1 = (e + 1) * 4503599627370496 + (f - 1) := by omega
    rw [e1, sv_split _ _ (by omega), sv_split _ _ (by omega)]
    refine ⟨2 ^ e, ?_, Nat.two_pow_pos e, ?_⟩
    · obtain ⟨g, rfl⟩ : ∃ g, f = g + 1 := ⟨f - 1, by omega⟩
      rw [Nat.add_sub_cancel, ← Nat.add_assoc, Nat.add_mul (4503599627370496 + g) 1, Nat.one_mul]
    · rw [Nat.mul_comm]
      exact Nat.mul_le_mul_right _ (by omega)

theorem rcp_fin {q m n r : Nat} (hm : 0 < m) (hnb : n < 2147483648) (h2 : Rnd q (1 * U) m) (h3 : Rnd r (n * sv q) 1) : r < 9218868437227405312 := by
  have hql := quo_lt hm (by omega) h2
  obtain ⟨r1, g, o1, _, _, _, o5⟩ := rung_one
  have hq1 : q ≤ r1 := Rnd.mono hm (by omega) (by rw [Nat.one_mul, Nat.mul_one, o1]; exact Nat.le_mul_of_pos_right _ hm) h2 (Rnd.exact (Nat.le_of_lt o5))
  obtain ⟨r2, t1, t2⟩ := rep_rung n (by omega)
  have : r ≤ r2 := Rnd.mono (by omega) (by omega) (by
    rw [Nat.mul_one, Nat.mul_one, t1, ← o1]
    exact Nat.mul_le_mul_left _ (sv_le hq1)) h3 (Rnd.exact (Nat.le_of_lt t2))
  omega

theorem rcp_one {q m n r r1 : Nat} (hm : 0 < m) (hmb : m < 2147483648) (h2 : Rnd q (1 * U) m) (h3 : Rnd r (n * sv q) 1) (h1 : sv r1 = U) : r ≤ r1 ↔ n ≤ m := by
  have hql := quo_lt hm (by omega) h2
  have hlarge := quo_large32 hm (by omega) h2
  obtain ⟨r1', g, o1, o2, o3, o4, o5⟩ := rung_one
  have : r1 = r1' := sv_inj (h1.trans o1.symm)
  subst this
  have hU := U_big
  have hq0 : 4503599627370496 < q := by
    rcases Nat.lt_or_ge 4503599627370496 q with h | h
    · exact h
    · exfalso
      have h4 := sv_le h
      have h5 : sv 4503599627370496 = 4503599627370496 * 2 ^ 0 := by
        have := sv_at (L := 0) (k := 4503599627370496) (by omega) (by omega)
        rw [Nat.zero_mul, Nat.zero_add] at this; exact this
      rw [h5] at h4
      omega
  obtain ⟨x, x1, x2, x3⟩ := sv_gap_below hq0
  obtain ⟨y, y1, y2, y3⟩ := sv_gap q
  have b1 := (rnd_bounds h2 hql).1 (by omega)
  have b2 := (rnd_bounds h2 hql).2
  rw [Nat.one_mul] at b1 b2
  have a3 := h3.2 r1 o5
  unfold above at a3
  rw [o1, o2, Nat.mul_one] at a3
  generalize sv q = v at *
  have c1 : (v + v) * m ≤ 2 * U + x * m := by
    have : v + v = sv (q - 1) + v + x := by omega
    rw [this, Nat.add_mul _ x]; omega
  have c2 : 2 * U ≤ (v + v) * m + y * m := by
    rw [y1, ← Nat.add_assoc, Nat.add_mul _ y] at b2; omega
  have c3 : (v + v) * m = 2 * (m * v) := by rw [Nat.add_mul, Nat.mul_comm v m]; omega
  rw [c3] at c1 c2
  constructor
  · intro h
    rcases Nat.lt_or_ge m n with hlt | hge
    · exfalso
      have d1 : m * v + v ≤ n * v := by
        have := Nat.mul_le_mul_right v hlt
        rw [Nat.succ_mul] at this; exact this
      -- y m is small
      have d2 : y * m * 4503599627370496 ≤ 4503599627370496 * m + v * m := by
        have := Nat.mul_le_mul_right m y3
        rw [Nat.mul_right_comm, Nat.add_mul] at this; exact this
      have d3 : v * m ≤ v * 2147483648 := Nat.mul_le_mul_left _ (by omega)
      have d4 : U + (U + g) < 2 * (n * v) := by
        have d2' : y * m * 4503599627370496 ≤ 4503599627370496 * m + v * 2147483648 := Nat.le_trans d2 (Nat.add_le_add_left d3 _)
        generalize n * v = nv at *
        generalize m * v = mv at *
        generalize y * m = ym at *
        clear a3 b1 b2 c1 c3 x1 x3 y1 y3 h1 o1 o2 h2 h3 d2 d3
        have s2 : g * 1048576 ≤ v := by clear d2' d1 c2 hU; omega
        have s3 : ym * 2097152 ≤ 2097152 * m + v := by
          have k1 : ym * 2097152 * 2147483648 ≤ (2097152 * m + v) * 2147483648 := by
            rw [Nat.mul_assoc, Nat.add_mul, Nat.mul_right_comm]; exact d2'
          exact Nat.le_of_mul_le_mul_right k1 (by omega)
        have s4 : 1152921504606846976 ≤ v := by clear d1 c2 d2' o3 s2 s3; omega
        have s5 : 2 * (mv + v) ≤ 2 * nv := by clear s2 s3 s4 c2 d2' hU hlarge o3; omega
        clear d2' hU hlarge o3 d1
        omega
      exact absurd (a3.2 (.inl d4)) (Nat.not_lt.2 h)
    · exact hge
  · intro h
    rcases Nat.lt_or_ge r1 r with hlt | hge
    · exfalso
      have e1 : n * v ≤ m * v := Nat.mul_le_mul_right v h
      have e2 : x * m * 4503599627370497 ≤ m * v := by
        have := Nat.mul_le_mul_right m x3
        rw [Nat.mul_right_comm, Nat.mul_comm v m] at this; exact this
      have e3 : 0 < x * m := Nat.mul_pos x2 hm
      have e4 : U + (U + g) ≤ 2 * (n * v) := by
        rcases a3.1 hlt with e4 | e4
        · exact Nat.le_of_lt e4
        · exact Nat.le_of_eq e4.1
      clear a3 b1 b2 c3 x1 x3 y1 y3 h1 o1 o2 h2 h3 c2 hU hlarge hlt h hq0 hql x2 y2 o5
      generalize n * v = nv at *
      generalize m * v = mv at *
      generalize x * m = xm at *
      omega
    · exact hge
end PF
