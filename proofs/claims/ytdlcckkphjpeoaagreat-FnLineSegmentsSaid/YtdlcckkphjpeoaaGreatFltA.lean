import Ieee.Arith
set_option linter.unusedSimpArgs false
set_option linter.unusedVariables false
namespace PF
open Ieee

/-- what a rung stands for, times 2 ^ 1074 -/
def sv (r : Nat) : Nat := if r < 4503599627370496 then r else (4503599627370496 + r % 4503599627370496) * 2 ^ (r / 4503599627370496 - 1)

theorem sv_small {r : Nat} (h : r < 4503599627370496) : sv r = r := if_pos h

theorem sv_split (q f : Nat) (hf : f < 4503599627370496) : sv ((q + 1) * 4503599627370496 + f) = (4503599627370496 + f) * 2 ^ q := by
  unfold sv
  rw [if_neg (by omega)]
  have h1 : ((q + 1) * 4503599627370496 + f) % 4503599627370496 = f := by omega
  have h2 : ((q + 1) * 4503599627370496 + f) / 4503599627370496 - 1 = q := by omega
  rw [h1, h2]

theorem split_rung (r : Nat) (h : ¬ r < 4503599627370496) : ∃ q f, f < 4503599627370496 ∧ r = (q + 1) * 4503599627370496 + f :=
  ⟨r / 4503599627370496 - 1, r % 4503599627370496, by omega, by omega⟩

theorem sv_succ (r : Nat) : sv r < sv (r + 1) := by
  by_cases h : r < 4503599627370496
  · by_cases h' : r + 1 < 4503599627370496
    · rw [sv_small h, sv_small h']; omega
    · have e : r = 4503599627370496 - 1 := by omega
      subst e
      rw [sv_small h]
      have : sv (4503599627370496 - 1 + 1) = (4503599627370496 + 0) * 2 ^ 0 := sv_split 0 0 (by omega)
      rw [this]; omega
  · obtain ⟨q, f, hf, rfl⟩ := split_rung r h
    rw [sv_split q f hf]
    have hp : 0 < 2 ^ q := Nat.two_pow_pos q
    by_cases h' : f + 1 < 4503599627370496
    · rw [Nat.add_assoc, sv_split q (f + 1) h']
      exact Nat.mul_lt_mul_of_pos_right (by omega) hp
    · have e : (q + 1) * 4503599627370496 + f + 1 = (q + 1 + 1) * 4503599627370496 + 0 := by omega
      rw [e, sv_split (q + 1) 0 (by omega), Nat.pow_succ, Nat.add_zero, Nat.mul_comm (2 ^ q) 2, ← Nat.mul_assoc]
      exact Nat.mul_lt_mul_of_pos_right (by omega) hp

theorem sv_lt {a b : Nat} (h : a < b) : sv a < sv b := by
  obtain ⟨d, rfl⟩ : ∃ d, b = a + 1 + d := ⟨b - (a + 1), by omega⟩
  clear h
  induction d with
  | zero => exact sv_succ a
  | succ d ih => exact Nat.lt_trans ih (sv_succ (a + 1 + d))

theorem sv_le {a b : Nat} (h : a ≤ b) : sv a ≤ sv b := by
  rcases Nat.lt_or_ge a b with h' | h'
  · exact Nat.le_of_lt (sv_lt h')
  · have : a = b := by omega
    subst this; exact Nat.le_refl _

theorem sv_lt_iff {a b : Nat} : sv a < sv b ↔ a < b :=
  ⟨fun h => by
    rcases Nat.lt_or_ge a b with h' | h'
    · exact h'
    · have := sv_le h'; omega, sv_lt⟩

theorem sv_inj {a b : Nat} (h : sv a = sv b) : a = b := by
  rcases Nat.lt_or_ge a b with h' | h'
  · have := sv_lt h'; omega
  · rcases Nat.lt_or_ge b a with h'' | h''
    · have := sv_lt h''; omega
    · omega

theorem sv_zero : sv 0 = 0 := rfl
theorem le_sv (r : Nat) : r ≤ sv r := by
  induction r with
  | zero => exact Nat.zero_le _
  | succ r ih => have := sv_succ r; omega

/-- the gap around a rung -/
theorem sv_gap0 (r : Nat) : (sv (r + 1) - sv r) * 4503599627370496 ≤ 4503599627370496 + sv r := by
  by_cases h : r < 4503599627370496
  · have : sv (r + 1) = r + 1 := by
      by_cases h' : r + 1 < 4503599627370496
      · exact sv_small h'
      · have e : r + 1 = (0 + 1) * 4503599627370496 + 0 := by omega
        rw [e, sv_split 0 0 (by omega)]
    rw [this, sv_small h]; omega
  · obtain ⟨q, f, hf, rfl⟩ := split_rung r h
    have hs : sv ((q + 1) * 4503599627370496 + f + 1) = (4503599627370496 + f + 1) * 2 ^ q := by
      by_cases h' : f + 1 < 4503599627370496
      · rw [Nat.add_assoc, sv_split q (f + 1) h']; rfl
      · have e : (q + 1) * 4503599627370496 + f + 1 = (q + 1 + 1) * 4503599627370496 + 0 := by omega
        rw [e, sv_split (q + 1) 0 (by omega), Nat.pow_succ, Nat.add_zero, Nat.mul_comm (2 ^ q) 2, ← Nat.mul_assoc]
        congr 1; omega
    rw [hs, sv_split q f hf]
    generalize 2 ^ q = t at *
    have : (4503599627370496 + f + 1) * t - (4503599627370496 + f) * t = t := by
      rw [Nat.add_mul (4503599627370496 + f) 1 t]; omega
    rw [this]
    have : t * 4503599627370496 ≤ (4503599627370496 + f) * t := by rw [Nat.mul_comm]; exact Nat.mul_le_mul_right t (by omega)
    omega

/-- the next rung is so far at most -/
theorem sv_gap (r : Nat) : ∃ x, sv (r + 1) = sv r + x ∧ 0 < x ∧ x * 4503599627370496 ≤ 4503599627370496 + sv r := by
  have h := sv_gap0 r
  have h1 := sv_succ r
  obtain ⟨x, hx⟩ : ∃ x, sv (r + 1) = sv r + x := ⟨sv (r + 1) - sv r, by clear h; omega⟩
  rw [hx, Nat.add_sub_cancel_left] at h
  exact ⟨x, hx, by clear h; omega, h⟩

/-- every number of at most 53 digits is a rung's -/
theorem rep (e : Nat) : ∀ M, M < 9007199254740992 → ∃ r, sv r = M * 2 ^ e ∧ r ≤ (e + 2) * 4503599627370496 := by
  induction e with
  | zero =>
    intro M h
    refine ⟨M, ?_, by omega⟩
    rw [Nat.pow_zero, Nat.mul_one]
    by_cases h' : M < 4503599627370496
    · exact sv_small h'
    · obtain ⟨q, f, hf, e⟩ := split_rung M h'
      have hq : q = 0 := by omega
      subst hq
      rw [e, sv_split 0 f hf, Nat.pow_zero, Nat.mul_one]
  | succ e ih =>
    intro M h
    by_cases h' : M < 4503599627370496
    · obtain ⟨r, hr, hb⟩ := ih (2 * M) (by omega)
      have h2 : M * 2 ^ (e + 1) = 2 * M * 2 ^ e := by rw [Nat.pow_succ, Nat.mul_comm 2 M, Nat.mul_assoc, Nat.mul_comm 2 (2 ^ e)]
      have h3 : r ≤ (e + 1 + 2) * 4503599627370496 := Nat.le_trans hb (Nat.mul_le_mul_right _ (by omega))
      exact ⟨r, hr.trans h2.symm, h3⟩
    · refine ⟨(e + 1 + 1) * 4503599627370496 + (M - 4503599627370496), ?_, by clear ih; omega⟩
      rw [sv_split (e + 1) _ (by omega)]
      have : 4503599627370496 + (M - 4503599627370496) = M := by omega
      rw [this]


theorem sv_def (r : Nat) : sv r = if r < 4503599627370496 then r else (4503599627370496 + r % 4503599627370496) * 2 ^ (r / 4503599627370496 - 1) := rfl
attribute [irreducible] sv

theorem d_frac : double.fractionBits = 52 := rfl
theorem d_least : double.leastPlace = -1074 := by decide
theorem d_binade : double.binade = 4503599627370496 := by decide
theorem d_inf : double.infRung = 9218868437227405312 := by decide
theorem d_sign : double.signWeight = 9223372036854775808 := by decide

/-- the midpoint above rung r lies below A / B (or at it, and r is odd) -/
def above (r A B : Nat) : Prop := (sv r + sv (r + 1)) * B < 2 * A ∨ ((sv r + sv (r + 1)) * B = 2 * A ∧ r % 2 = 1)

/-- r is the rung to which A / B is rounded -/
def Rnd (r A B : Nat) : Prop := r ≤ 9218868437227405312 ∧ ∀ k, k < 9218868437227405312 → (k < r ↔ above k A B)

theorem above_mono {r A B A' B' : Nat} (hB : 0 < B) (hB' : 0 < B') (h : A * B' ≤ A' * B) (ha : above r A B) : above r A' B' := by
  unfold above at *
  generalize hm : sv r + sv (r + 1) = m at *
  clear hm
  have h1 : 2 * A * B' ≤ 2 * A' * B := by rw [Nat.mul_assoc, Nat.mul_assoc]; exact Nat.mul_le_mul_left 2 h
  rcases ha with ha | ⟨ha, ho⟩
  · left
    have h2 : m * B * B' < 2 * A * B' := Nat.mul_lt_mul_of_pos_right ha hB'
    have h3 : m * B' * B < 2 * A' * B := by rw [Nat.mul_right_comm]; omega
    exact Nat.lt_of_mul_lt_mul_right h3
  · have h2 : m * B' * B ≤ 2 * A' * B := by rw [Nat.mul_right_comm, ha]; exact h1
    have h3 := Nat.le_of_mul_le_mul_right h2 hB
    rcases Nat.lt_or_ge (m * B') (2 * A') with h4 | h4
    · exact .inl h4
    · exact .inr ⟨by omega, ho⟩

theorem Rnd.mono {r A B r' A' B' : Nat} (hB : 0 < B) (hB' : 0 < B') (h : A * B' ≤ A' * B) (h1 : Rnd r A B) (h2 : Rnd r' A' B') : r ≤ r' := by
  rcases Nat.lt_or_ge r' r with hl | hl
  · exfalso
    have hr := h1.1
    have hk : r' < 9218868437227405312 := by omega
    have := (h2.2 r' hk).2 (above_mono hB hB' h ((h1.2 r' hk).1 hl))
    omega
  · exact hl

theorem Rnd.uniq {r A B r' A' B' : Nat} (hB : 0 < B) (hB' : 0 < B') (h : A * B' = A' * B) (h1 : Rnd r A B) (h2 : Rnd r' A' B') : r = r' :=
  Nat.le_antisymm (Rnd.mono hB hB' (Nat.le_of_eq h) h1 h2) (Rnd.mono hB' hB (Nat.le_of_eq h.symm) h2 h1)

theorem Rnd.same {r A B A' B' : Nat} (hB : 0 < B) (hB' : 0 < B') (h : A * B' = A' * B) (h1 : Rnd r A B) : Rnd r A' B' :=
  ⟨h1.1, fun k hk => (h1.2 k hk).trans ⟨above_mono hB hB' (Nat.le_of_eq h), above_mono hB' hB (Nat.le_of_eq h.symm)⟩⟩

/-- what a rung stands for is rounded to that rung -/
theorem Rnd.exact {r : Nat} (hr : r ≤ 9218868437227405312) : Rnd r (sv r) 1 := by
  refine ⟨hr, fun k _ => ⟨fun h => ?_, fun h => ?_⟩⟩
  · left
    have h1 := sv_lt h
    have h2 := sv_le (show k + 1 ≤ r from h)
    omega
  · rcases Nat.lt_or_ge k r with hl | hl
    · exact hl
    · exfalso
      have h1 := sv_le hl
      have h2 := sv_lt (show r < k + 1 from by omega)
      rcases h with h | ⟨h, _⟩ <;> omega

theorem sv_at {L k : Nat} (hk : k ≤ 9007199254740992) (hL : 0 < L → 4503599627370496 ≤ k) : sv (L * 4503599627370496 + k) = k * 2 ^ L := by
  cases L with
  | zero =>
    rw [Nat.pow_zero, Nat.mul_one, Nat.zero_mul, Nat.zero_add]
    by_cases h : k < 4503599627370496
    · exact sv_small h
    · obtain ⟨q, f, hf, e⟩ := split_rung k h
      rcases Nat.eq_zero_or_pos q with hq | hq
      · subst hq; rw [e, sv_split 0 f hf, Nat.pow_zero, Nat.mul_one]
      · have hq1 : q = 1 := by omega
        have hf0 : f = 0 := by omega
        subst hq1; subst hf0; subst e
        exact sv_split 1 0 (by omega)
  | succ L =>
    have hb := hL (by omega)
    by_cases h : k < 9007199254740992
    · have e : (L + 1) * 4503599627370496 + k = (L + 1 + 1) * 4503599627370496 + (k - 4503599627370496) := by omega
      rw [e, sv_split (L + 1) _ (by omega)]
      have : 4503599627370496 + (k - 4503599627370496) = k := by omega
      rw [this]
    · have hk' : k = 9007199254740992 := by omega
      subst hk'
      have e : (L + 1) * 4503599627370496 + 9007199254740992 = (L + 1 + 1 + 1) * 4503599627370496 + 0 := by omega
      rw [e, sv_split (L + 1 + 1) _ (by omega), Nat.pow_succ 2 (L + 1), Nat.mul_comm (2 ^ (L + 1)) 2, ← Nat.mul_assoc]

theorem sv_at_succ {L k : Nat} (hk : k ≤ 9007199254740992) (hL : 0 < L → 4503599627370496 ≤ k) : (k + 1) * 2 ^ L ≤ sv (L * 4503599627370496 + k + 1) := by
  by_cases h : k < 9007199254740992
  · rw [Nat.add_assoc, sv_at (by omega) (fun h => by have := hL h; omega)]
    exact Nat.le_refl _
  · have hk' : k = 9007199254740992 := by omega
    subst hk'
    have e : L * 4503599627370496 + 9007199254740992 + 1 = (L + 1) * 4503599627370496 + 4503599627370497 := by omega
    rw [e, sv_at (by omega) (fun _ => by omega), Nat.pow_succ, Nat.mul_comm (2 ^ L) 2, ← Nat.mul_assoc]
    exact Nat.mul_le_mul_right _ (by omega)

/-- the core of a rounding: k units of 2 ^ L, half an even one apart at most -/
theorem rnd_core {L k A B c X : Nat} (hB : 0 < B) (hc : 0 < c)
    (hA : A * c = X * 2 ^ L * B)
    (hk : k ≤ 9007199254740992) (hL : 0 < L → 4503599627370496 ≤ k ∧ 4503599627370496 * c ≤ X)
    (up : 2 * X ≤ (2 * k + 1) * c) (up' : 2 * X = (2 * k + 1) * c → k % 2 = 0)
    (lo : 0 < k → (2 * k - 1) * c ≤ 2 * X) (lo' : 0 < k → (2 * k - 1) * c = 2 * X → k % 2 = 0) :
    Rnd (min (L * 4503599627370496 + k) 9218868437227405312) A B := by
  have hp : 0 < 2 ^ L := Nat.two_pow_pos L
  have s0 := sv_at hk (fun h => (hL h).1)
  have s1 := sv_at_succ hk (fun h => (hL h).1)
  have hA2 : 2 * A * c = 2 * X * (2 ^ L * B) := by rw [Nat.mul_assoc, hA, Nat.mul_assoc, Nat.mul_assoc]
  have hPB : 0 < 2 ^ L * B := Nat.mul_pos hp hB
  refine ⟨Nat.min_le_right _ _, fun r hr => ?_⟩
  have hmin : r < min (L * 4503599627370496 + k) 9218868437227405312 ↔ r < L * 4503599627370496 + k :=
    ⟨fun h => (Nat.lt_min.1 h).1, fun h => Nat.lt_min.2 ⟨h, hr⟩⟩
  rw [hmin]
  clear hmin
  constructor
  · intro hlt
    have m1 := sv_lt hlt
    have m2 := sv_le (show r + 1 ≤ L * 4503599627370496 + k from hlt)
    unfold above
    by_cases hedge : 0 < L ∧ k = 4503599627370496
    · left
      have hX := (hL hedge.1).2
      have h1 : (sv r + sv (r + 1)) < 2 * (4503599627370496 * 2 ^ L) := by rw [← hedge.2, ← s0]; omega
      have h2 : (sv r + sv (r + 1)) * B * c < 2 * A * c := by
        rw [hA2]
        have h3 : (sv r + sv (r + 1)) * (B * c) < 2 * (4503599627370496 * 2 ^ L) * (B * c) := Nat.mul_lt_mul_of_pos_right h1 (Nat.mul_pos hB hc)
        have h4 : 2 * (4503599627370496 * c) * (2 ^ L * B) ≤ 2 * X * (2 ^ L * B) := Nat.mul_le_mul_right _ (Nat.mul_le_mul_left 2 hX)
        have h5 : 2 * (4503599627370496 * 2 ^ L) * (B * c) = 2 * (4503599627370496 * c) * (2 ^ L * B) := by generalize 4503599627370496 = D; ac_rfl
        rw [Nat.mul_assoc]; omega
      exact Nat.lt_of_mul_lt_mul_right h2
    · have hk0 : 0 < k := by
        rcases Nat.eq_zero_or_pos k with h | h
        · subst h
          rcases Nat.eq_zero_or_pos L with h' | h'
          · subst h'; omega
          · have := (hL h').1; omega
        · exact h
      have e1 : L * 4503599627370496 + k - 1 = L * 4503599627370496 + (k - 1) := by omega
      have s2 : sv (L * 4503599627370496 + (k - 1)) = (k - 1) * 2 ^ L := sv_at (by omega) (fun h => by have := (hL h).1; omega)
      have m3 := sv_le (show r ≤ L * 4503599627370496 + (k - 1) from by omega)
      have hM : sv r + sv (r + 1) ≤ (2 * k - 1) * 2 ^ L := by
        have : (2 * k - 1) * 2 ^ L = (k - 1) * 2 ^ L + k * 2 ^ L := by rw [← Nat.add_mul]; exact congrArg (· * 2 ^ L) (by omega)
        omega
      have l1 := lo hk0
      have h1 : (sv r + sv (r + 1)) * (B * c) ≤ (2 * k - 1) * 2 ^ L * (B * c) := Nat.mul_le_mul_right _ hM
      have h2 : (2 * k - 1) * c * (2 ^ L * B) ≤ 2 * X * (2 ^ L * B) := Nat.mul_le_mul_right _ l1
      have h3 : (2 * k - 1) * 2 ^ L * (B * c) = (2 * k - 1) * c * (2 ^ L * B) := by ac_rfl
      have h4 : (sv r + sv (r + 1)) * B * c ≤ 2 * A * c := by rw [hA2, Nat.mul_assoc (sv r + sv (r + 1)) B c]; omega
      have h5 := Nat.le_of_mul_le_mul_right h4 hc
      rcases Nat.lt_or_ge ((sv r + sv (r + 1)) * B) (2 * A) with h6 | h6
      · exact .inl h6
      · right
        have h7 : (sv r + sv (r + 1)) * B = 2 * A := by omega
        refine ⟨h7, ?_⟩
        have h8 : (sv r + sv (r + 1)) * (B * c) = 2 * X * (2 ^ L * B) := by rw [← Nat.mul_assoc, h7, hA2]
        have h9 : (2 * k - 1) * c = 2 * X := Nat.eq_of_mul_eq_mul_right hPB (by omega)
        have h10 := lo' hk0 h9
        have h11 : sv r + sv (r + 1) = (2 * k - 1) * 2 ^ L := Nat.eq_of_mul_eq_mul_right (Nat.mul_pos hB hc) (by omega)
        have h12 : ¬ r < L * 4503599627370496 + (k - 1) := fun h => by
          have := sv_lt h
          have : (2 * k - 1) * 2 ^ L = (k - 1) * 2 ^ L + k * 2 ^ L := by rw [← Nat.add_mul]; exact congrArg (· * 2 ^ L) (by omega)
          omega
        have h13 : r = L * 4503599627370496 + (k - 1) := by omega
        clear h1 h2 h3 h4 h5 h6 h7 h8 h9 h11 h12 s0 s1 s2 m1 m2 m3 hM l1 hA hA2 up lo
        omega
  · intro hab
    rcases Nat.lt_or_ge r (L * 4503599627370496 + k) with hlt | hge
    · exact hlt
    · exfalso
      have m1 := sv_le hge
      have m2 : sv (L * 4503599627370496 + k + 1) ≤ sv (r + 1) := sv_le (Nat.succ_le_succ hge)
      have e2 : (2 * k + 1) * 2 ^ L = k * 2 ^ L + (k + 1) * 2 ^ L := by rw [← Nat.add_mul]; exact congrArg (· * 2 ^ L) (by omega)
      have hM : (2 * k + 1) * 2 ^ L ≤ sv r + sv (r + 1) := by omega
      have h1 : (2 * k + 1) * 2 ^ L * (B * c) ≤ (sv r + sv (r + 1)) * (B * c) := Nat.mul_le_mul_right _ hM
      have h2 : 2 * X * (2 ^ L * B) ≤ (2 * k + 1) * c * (2 ^ L * B) := Nat.mul_le_mul_right _ up
      have h3 : (2 * k + 1) * 2 ^ L * (B * c) = (2 * k + 1) * c * (2 ^ L * B) := by ac_rfl
      have h4 : 2 * A * c ≤ (sv r + sv (r + 1)) * B * c := by rw [hA2, Nat.mul_assoc (sv r + sv (r + 1)) B c]; omega
      have h5 := Nat.le_of_mul_le_mul_right h4 hc
      rcases hab with h6 | ⟨h6, h7⟩
      · omega
      · have h8 : (sv r + sv (r + 1)) * (B * c) = 2 * X * (2 ^ L * B) := by rw [← Nat.mul_assoc, h6, hA2]
        have h9 : 2 * X = (2 * k + 1) * c := Nat.eq_of_mul_eq_mul_right hPB (by omega)
        have h10 := up' h9
        have h11 : sv r + sv (r + 1) = (2 * k + 1) * 2 ^ L := Nat.eq_of_mul_eq_mul_right (Nat.mul_pos hB hc) (by omega)
        have h12 : ¬ L * 4503599627370496 + k < r := fun h => by have := sv_lt h; omega
        have h13 : r = L * 4503599627370496 + k := by omega
        clear h1 h2 h3 h4 h5 h6 h8 h9 h11 h12 s0 s1 m1 m2 hM e2 hA hA2 up lo
        omega

theorem cut_even (neg : Bool) (n drop : Nat) :
    ∃ k, Toward.even.cut neg n drop = k ∧ 2 * n ≤ (2 * k + 1) * 2 ^ drop ∧ (2 * n = (2 * k + 1) * 2 ^ drop → k % 2 = 0) ∧
      (0 < k → (2 * k - 1) * 2 ^ drop ≤ 2 * n) ∧ (0 < k → (2 * k - 1) * 2 ^ drop = 2 * n → k % 2 = 0) := by
  refine ⟨_, rfl, ?_⟩
  unfold Toward.cut
  simp only [Nat.one_shiftLeft]
  by_cases hd : drop ≤ n.log2 + 2
  · rw [Nat.min_eq_left hd]
    have hp : 0 < 2 ^ drop := Nat.two_pow_pos drop
    generalize 2 ^ drop = g at *
    have hn : n = g * (n / g) + n % g := (Nat.div_add_mod n g).symm
    have hr : n % g < g := Nat.mod_lt _ hp
    generalize n / g = q at *
    generalize n % g = r at *
    subst hn
    have e1 : (2 * (q + 1) + 1) * g = 2 * (g * q) + 3 * g := by
      rw [Nat.add_mul, Nat.mul_assoc, Nat.mul_comm (q + 1) g, Nat.mul_add]; omega
    have e0 : (2 * q + 1) * g = 2 * (g * q) + g := by
      rw [Nat.add_mul, Nat.mul_assoc, Nat.mul_comm q g]; omega
    have em : 0 < q → (2 * q - 1) * g = 2 * (g * q) - g := fun hq => by
      rw [Nat.sub_mul, Nat.mul_assoc, Nat.mul_comm q g]; omega
    have em1 : (2 * (q + 1) - 1) * g = 2 * (g * q) + g := by
      rw [show 2 * (q + 1) - 1 = 2 * q + 1 from by omega]; exact e0
    have hq2 : 0 < q → g ≤ g * q := fun hq => Nat.le_mul_of_pos_right g hq
    generalize g * q = gq at *
    by_cases h1 : g < 2 * r
    · simp only [h1, decide_true, Bool.true_or, Bool.toNat_true]
      refine ⟨by omega, by omega, fun _ => by omega, fun _ h => by omega⟩
    · by_cases h2 : g = 2 * r
      · by_cases h3 : q % 2 = 1
        · have : (decide (g < 2 * r) || g == 2 * r && q % 2 == 1) = true := by simp [h2, h3]
          rw [this, Bool.toNat_true]
          refine ⟨by omega, by omega, fun _ => by omega, fun _ h => by omega⟩
        · have : (decide (g < 2 * r) || g == 2 * r && q % 2 == 1) = false := by simp [h2, h3]
          rw [this, Bool.toNat_false]; simp only [Nat.add_zero]
          refine ⟨by omega, by omega, fun h => by have := em h; have := hq2 h; omega, fun h h' => by have := em h; have := hq2 h; omega⟩
      · have : (decide (g < 2 * r) || g == 2 * r && q % 2 == 1) = false := by simp [h1, h2]
        rw [this, Bool.toNat_false]; simp only [Nat.add_zero]
        refine ⟨by omega, by omega, fun h => by have := em h; have := hq2 h; omega, fun h h' => by have := em h; have := hq2 h; omega⟩
  · rw [Nat.min_eq_right (by omega)]
    have h1 : 2 * n < 2 ^ (n.log2 + 2) := by
      have : n < 2 ^ (n.log2 + 1) := Nat.lt_log2_self
      rw [Nat.pow_succ]; omega
    have h2 : n / 2 ^ (n.log2 + 2) = 0 := Nat.div_eq_of_lt (by omega)
    have h3 : n % 2 ^ (n.log2 + 2) = n := Nat.mod_eq_of_lt (by omega)
    have h4 : 2 ^ (n.log2 + 2) ≤ 2 ^ drop := Nat.pow_le_pow_right (by omega) (by omega)
    rw [h2, h3]
    have h5 : (decide (2 ^ (n.log2 + 2) < 2 * n) || 2 ^ (n.log2 + 2) == 2 * n && 0 % 2 == 1) = false := by
      simp; omega
    rw [h5, Bool.toNat_false]
    refine ⟨by omega, by omega, by omega, by omega⟩

theorem pow_le_of {a b : Nat} (h : a ≤ b) : 2 ^ a ≤ 2 ^ b := Nat.pow_le_pow_right (by omega) h

theorem nearest_rnd (neg : Bool) (mag : Nat) (place : Int) (hm : mag ≠ 0) :
    ∃ r, double.nearest neg mag place = double.word neg r ∧ Rnd r (mag * 2 ^ (place + 1074).toNat) (2 ^ (-(place + 1074)).toNat) := by
  unfold Format.nearest
  rw [if_neg hm, d_frac, d_least, d_binade, d_inf]
  refine ⟨_, rfl, ?_⟩
  have hl1 : 2 ^ mag.log2 ≤ mag := Nat.log2_self_le hm
  have hl2 : mag < 2 ^ (mag.log2 + 1) := Nat.lt_log2_self
  generalize mag.log2 = l at *
  simp only [Nat.shiftLeft_eq]
  have hlast : max (place + (l : Int) - (52 : Nat)) (-1074) = max (place + l - 52) (-1074) := rfl
  rw [hlast]
  obtain ⟨L, hL⟩ : ∃ L : Nat, max (place + (l : Int) - 52) (-1074) = (L : Int) - 1074 := ⟨(max (place + (l : Int) - 52) (-1074) + 1074).toNat, by omega⟩
  rw [hL]
  have e1 : ((L : Int) - 1074 - -1074).toNat = L := by omega
  rw [e1]
  obtain ⟨k, hk, u1, u2, l1, l2⟩ := cut_even neg (mag * 2 ^ (place - ((L : Int) - 1074)).toNat) ((L : Int) - 1074 - place).toNat
  rw [hk]
  clear hk
  have hcases : (place - ((L : Int) - 1074)).toNat = 0 ∨ ((L : Int) - 1074 - place).toNat = 0 := by omega
  -- the scaled number lies below 2 ^ 53
  have hX : mag * 2 ^ (place - ((L : Int) - 1074)).toNat < 9007199254740992 * 2 ^ ((L : Int) - 1074 - place).toNat := by
    have h1 : mag * 2 ^ (place - ((L : Int) - 1074)).toNat < 2 ^ (l + 1) * 2 ^ (place - ((L : Int) - 1074)).toNat := Nat.mul_lt_mul_of_pos_right hl2 (Nat.two_pow_pos _)
    have h2 : 2 ^ (l + 1) * 2 ^ (place - ((L : Int) - 1074)).toNat ≤ 9007199254740992 * 2 ^ ((L : Int) - 1074 - place).toNat := by
      rw [← Nat.pow_add, show (9007199254740992 : Nat) = 2 ^ 53 from rfl, ← Nat.pow_add]
      exact pow_le_of (by omega)
    omega
  have hX2 : 0 < L → 4503599627370496 * 2 ^ ((L : Int) - 1074 - place).toNat ≤ mag * 2 ^ (place - ((L : Int) - 1074)).toNat := fun h0 => by
    have h1 : 2 ^ l * 2 ^ (place - ((L : Int) - 1074)).toNat ≤ mag * 2 ^ (place - ((L : Int) - 1074)).toNat := Nat.mul_le_mul_right _ hl1
    have h2 : 4503599627370496 * 2 ^ ((L : Int) - 1074 - place).toNat ≤ 2 ^ l * 2 ^ (place - ((L : Int) - 1074)).toNat := by
      rw [← Nat.pow_add, show (4503599627370496 : Nat) = 2 ^ 52 from rfl, ← Nat.pow_add]
      exact pow_le_of (by omega)
    omega
  have hpow : 2 ^ (place + 1074).toNat * 2 ^ ((L : Int) - 1074 - place).toNat = 2 ^ (place - ((L : Int) - 1074)).toNat * 2 ^ L * 2 ^ (-(place + 1074)).toNat := by
    rw [← Nat.pow_add, ← Nat.pow_add, ← Nat.pow_add]
    exact congrArg (2 ^ ·) (by omega)
  have hc : 0 < 2 ^ ((L : Int) - 1074 - place).toNat := Nat.two_pow_pos _
  have hB : 0 < 2 ^ (-(place + 1074)).toNat := Nat.two_pow_pos _
  clear hlast e1 hcases hL hl1 hl2
  generalize (place - ((L : Int) - 1074)).toNat = x1 at *
  generalize 2 ^ ((L : Int) - 1074 - place).toNat = c at *
  generalize 2 ^ (-(place + 1074)).toNat = B at *
  generalize 2 ^ (place + 1074).toNat = A at *
  refine rnd_core (X := mag * 2 ^ x1) (c := c) hB hc ?_ ?_ ?_ u1 u2 l1 l2
  · rw [Nat.mul_assoc, hpow, Nat.mul_assoc, Nat.mul_assoc, Nat.mul_assoc]
  · -- k is at most 2 ^ 53
    rcases Nat.lt_or_ge 9007199254740992 k with h | h
    · exfalso
      have h1 := l1 (by omega)
      have h2 : (2 * 9007199254740993 - 1) * c ≤ (2 * k - 1) * c := Nat.mul_le_mul_right _ (by omega)
      omega
    · exact h
  · intro h0
    have h3 := hX2 h0
    refine ⟨?_, h3⟩
    rcases Nat.lt_or_ge k 4503599627370496 with h | h
    · exfalso
      have h2 : (2 * k + 1) * c ≤ (2 * 4503599627370495 + 1) * c := Nat.mul_le_mul_right _ (by omega)
      omega
    · exact h
end PF
