import Ieee.Arith
import Derived.Laws.FloatArith
set_option linter.unusedSimpArgs false
set_option linter.unusedVariables false
namespace PF
open Ieee

/-- what a rung stands for, times 2 ^ 1074 -/
def sv (r : Nat) : Nat := if r < 4503599627370496 then r else (4503599627370496 + r % 4503599627370496) * 2 ^ (r / 4503599627370496 - 1)

theorem sv_small {r : Nat} (h : r < 4503599627370496) : sv r = r := if_pos h

theorem sv_split (q f : Nat) (hf : f < 4503599627370496) : sv ((q + 1) * 4503599627370496 + f) = (4503599627370496 + f) * 2 ^ q := by
  unfold sv
  rw [if_neg (by omega)]
  have h1 : ((q + 1) * 4503599627370496 + f) % 4503599627370496 = f := by omega
  have h2 : ((q + 1) * 4503599627370496 + f) / 4503599627370496 - 1 = q := by omega
  rw [h1, h2]

theorem split_rung (r : Nat) (h : ¬ r < 4503599627370496) : ∃ q f, f < 4503599627370496 ∧ r = (q + 1) * 4503599627370496 + f :=
  ⟨r / 4503599627370496 - 1, r % 4503599627370496, by omega, by omega⟩

theorem sv_succ (r : Nat) : sv r < sv (r + 1) := by
  by_cases h : r < 4503599627370496
  · by_cases h' : r + 1 < 4503599627370496
    · rw [sv_small h, sv_small h']; omega
    · have e : r = 4503599627370496 - 1 := by omega
      subst e
      rw [sv_small h]
      have : sv (4503599627370496 - 1 + 1) = (4503599627370496 + 0) * 2 ^ 0 := sv_split 0 0 (by omega)
      rw [this]; omega
  · obtain ⟨q, f, hf, rfl⟩ := split_rung r h
    rw [sv_split q f hf]
    have hp : 0 < 2 ^ q := Nat.two_pow_pos q
    by_cases h' : f + 1 < 4503599627370496
    · rw [Nat.add_assoc, sv_split q (f + 1) h']
      exact Nat.mul_lt_mul_of_pos_right (by omega) hp
    · have e : (q + 1) * 4503599627370496 + f + 1 = (q + 1 + 1) * 4503599627370496 + 0 := by omega
      rw [e, sv_split (q + 1) 0 (by omega), Nat.pow_succ, Nat.add_zero, Nat.mul_comm (2 ^ q) 2, ← Nat.mul_assoc]
      exact Nat.mul_lt_mul_of_pos_right (by omega) hp

theorem sv_lt {a b : Nat} (h : a < b) : sv a < sv b := by
  obtain ⟨d, rfl⟩ : ∃ d, b = a + 1 + d := ⟨b - (a + 1), by omega⟩
  clear h
  induction d with
  | zero => exact sv_succ a
  | succ d ih => exact Nat.lt_trans ih (sv_succ (a + 1 + d))

theorem sv_le {a b : Nat} (h : a ≤ b) : sv a ≤ sv b := by
  rcases Nat.lt_or_ge a b with h' | h'
  · exact Nat.le_of_lt (sv_lt h')
  · have : a = b := by omega
    subst this; exact Nat.le_refl _

theorem sv_lt_iff {a b : Nat} : sv a < sv b ↔ a < b :=
  ⟨fun h => by
    rcases Nat.lt_or_ge a b with h' | h'
    · exact h'
    · have := sv_le h'; omega, sv_lt⟩

theorem sv_inj {a b : Nat} (h : sv a = sv b) : a = b := by
  rcases Nat.lt_or_ge a b with h' | h'
  · have := sv_lt h'; omega
  · rcases Nat.lt_or_ge b a with h'' | h''
    · have := sv_lt h''; omega
    · omega

theorem sv_zero : sv 0 = 0 := rfl
theorem le_sv (r : Nat) : r ≤ sv r := by
  induction r with
  | zero => exact Nat.zero_le _
  | succ r ih => have := sv_succ r; omega

/-- the gap around a rung -/
theorem sv_gap0 (r : Nat) : (sv (r + 1) - sv r) * 4503599627370496 ≤ 4503599627370496 + sv r := by
  by_cases h : r < 4503599627370496
  · have : sv (r + 1) = r + 1 := by
      by_cases h' : r + 1 < 4503599627370496
      · exact sv_small h'
      · have e : r + 1 = (0 + 1) * 4503599627370496 + 0 := by omega
        rw [e, sv_split 0 0 (by omega)]
    rw [this, sv_small h]; omega
  · obtain ⟨q, f, hf, rfl⟩ := split_rung r h
    have hs : sv ((q + 1) * 4503599627370496 + f + 1) = (4503599627370496 + f + 1) * 2 ^ q := by
      by_cases h' : f + 1 < 4503599627370496
      · rw [Nat.add_assoc, sv_split q (f + 1) h']; rfl
      · have e : (q + 1) * 4503599627370496 + f + 1 = (q + 1 + 1) * 4503599627370496 + 0 := by omega
        rw [e, sv_split (q + 1) 0 (by omega), Nat.pow_succ, Nat.add_zero, Nat.mul_comm (2 ^ q) 2, ← Nat.mul_assoc]
        congr 1; omega
    rw [hs, sv_split q f hf]
    generalize 2 ^ q = t at *
    have : (4503599627370496 + f + 1) * t - (4503599627370496 + f) * t = t := by
      rw [Nat.add_mul (4503599627370496 + f) 1 t]; omega
    rw [this]
    have : t * 4503599627370496 ≤ (4503599627370496 + f) * t := by rw [Nat.mul_comm]; exact Nat.mul_le_mul_right t (by omega)
    omega

/-- the next rung is so far at most -/
theorem sv_gap (r : Nat) : ∃ x, sv (r + 1) = sv r + x ∧ 0 < x ∧ x * 4503599627370496 ≤ 4503599627370496 + sv r := by
  have h := sv_gap0 r
  have h1 := sv_succ r
  obtain ⟨x, hx⟩ : ∃ x, sv (r + 1) = sv r + x := ⟨sv (r + 1) - sv r, by clear h; omega⟩
  rw [hx, Nat.add_sub_cancel_left] at h
  exact ⟨x, hx, by clear h; omega, h⟩

/-- every number of at most 53 digits is a rung's -/
theorem rep (e : Nat) : ∀ M, M < 9007199254740992 → ∃ r, sv r = M * 2 ^ e ∧ r ≤ (e + 2) * 4503599627370496 := by
  induction e with
  | zero =>
    intro M h
    refine ⟨M, ?_, by omega⟩
    rw [Nat.pow_zero, Nat.mul_one]
    by_cases h' : M < 4503599627370496
    · exact sv_small h'
    · obtain ⟨q, f, hf, e⟩ := split_rung M h'
      have hq : q = 0 := by omega
      subst hq
      rw [e, sv_split 0 f hf, Nat.pow_zero, Nat.mul_one]
  | succ e ih =>
    intro M h
    by_cases h' : M < 4503599627370496
    · obtain ⟨r, hr, hb⟩ := ih (2 * M) (by omega)
      have h2 : M * 2 ^ (e + 1) = 2 * M * 2 ^ e := by rw [Nat.pow_succ, Nat.mul_comm 2 M, Nat.mul_assoc, Nat.mul_comm 2 (2 ^ e)]
      have h3 : r ≤ (e + 1 + 2) * 4503599627370496 := Nat.le_trans hb (Nat.mul_le_mul_right _ (by omega))
      exact ⟨r, hr.trans h2.symm, h3⟩
    · refine ⟨(e + 1 + 1) * 4503599627370496 + (M - 4503599627370496), ?_, by clear ih; omega⟩
      rw [sv_split (e + 1) _ (by omega)]
      have : 4503599627370496 + (M - 4503599627370496) = M := by omega
      rw [this]


theorem sv_def (r : Nat) : sv r = if r < 4503599627370496 then r else (4503599627370496 + r % 4503599627370496) * 2 ^ (r / 4503599627370496 - 1) := rfl
attribute [irreducible] sv

theorem d_frac : double.fractionBits = 52 := rfl
theorem d_least : double.leastPlace = -1074 := by decide
theorem d_binade : double.binade = 4503599627370496 := by decide
theorem d_inf : double.infRung = 9218868437227405312 := by decide
theorem d_sign : double.signWeight = 9223372036854775808 := by decide

/-- the midpoint above rung r lies below A / B (or at it, and r is odd) -/
def above (r A B : Nat) : Prop := (sv r + sv (r + 1)) * B < 2 * A ∨ ((sv r + sv (r + 1)) * B = 2 * A ∧ r % 2 = 1)

/-- r is the rung to which A / B is rounded -/
def Rnd (r A B : Nat) : Prop := r ≤ 9218868437227405312 ∧ ∀ k, k < 9218868437227405312 → (k < r ↔ above k A B)

theorem above_mono {r A B A' B' : Nat} (hB : 0 < B) (hB' : 0 < B') (h : A * B' ≤ A' * B) (ha : above r A B) : above r A' B' := by
  unfold above at *
  generalize hm : sv r + sv (r + 1) = m at *
  clear hm
  have h1 : 2 * A * B' ≤ 2 * A' * B := by rw [Nat.mul_assoc, Nat.mul_assoc]; exact Nat.mul_le_mul_left 2 h
  rcases ha with ha | ⟨ha, ho⟩
  · left
    have h2 : m * B * B' < 2 * A * B' := Nat.mul_lt_mul_of_pos_right ha hB'
    have h3 : m * B' * B < 2 * A' * B := by rw [Nat.mul_right_comm]; omega
    exact Nat.lt_of_mul_lt_mul_right h3
  · have h2 : m * B' * B ≤ 2 * A' * B := by rw [Nat.mul_right_comm, ha]; exact h1
    have h3 := Nat.le_of_mul_le_mul_right h2 hB
    rcases Nat.lt_or_ge (m * B') (2 * A') with h4 | h4
    · exact .inl h4
    · exact .inr ⟨by omega, ho⟩

theorem Rnd.mono {r A B r' A' B' : Nat} (hB : 0 < B) (hB' : 0 < B') (h : A * B' ≤ A' * B) (h1 : Rnd r A B) (h2 : Rnd r' A' B') : r ≤ r' := by
  rcases Nat.lt_or_ge r' r with hl | hl
  · exfalso
    have hr := h1.1
    have hk : r' < 9218868437227405312 := by omega
    have := (h2.2 r' hk).2 (above_mono hB hB' h ((h1.2 r' hk).1 hl))
    omega
  · exact hl

theorem Rnd.uniq {r A B r' A' B' : Nat} (hB : 0 < B) (hB' : 0 < B') (h : A * B' = A' * B) (h1 : Rnd r A B) (h2 : Rnd r' A' B') : r = r' :=
  Nat.le_antisymm (Rnd.mono hB hB' (Nat.le_of_eq h) h1 h2) (Rnd.mono hB' hB (Nat.le_of_eq h.symm) h2 h1)

theorem Rnd.same {r A B A' B' : Nat} (hB : 0 < B) (hB' : 0 < B') (h : A * B' = A' * B) (h1 : Rnd r A B) : Rnd r A' B' :=
  ⟨h1.1, fun k hk => (h1.2 k hk).trans ⟨above_mono hB hB' (Nat.le_of_eq h), above_mono hB' hB (Nat.le_of_eq h.symm)⟩⟩

/-- what a rung stands for is rounded to that rung -/
theorem Rnd.exact {r : Nat} (hr : r ≤ 9218868437227405312) : Rnd r (sv r) 1 := by
  refine ⟨hr, fun k _ => ⟨fun h => ?_, fun h => ?_⟩⟩
  · left
    have h1 := sv_lt h
    have h2 := sv_le (show k + 1 ≤ r from h)
    omega
  · rcases Nat.lt_or_ge k r with hl | hl
    · exact hl
    · exfalso
      have h1 := sv_le hl
      have h2 := sv_lt (show r < k + 1 from by omega)
      rcases h with h | ⟨h, _⟩ <;> omega

theorem sv_at {L k : Nat} (hk : k ≤ 9007199254740992) (hL : 0 < L → 4503599627370496 ≤ k) : sv (L * 4503599627370496 + k) = k * 2 ^ L := by
  cases L with
  | zero =>
    rw [Nat.pow_zero, Nat.mul_one, Nat.zero_mul, Nat.zero_add]
    by_cases h : k < 4503599627370496
    · exact sv_small h
    · obtain ⟨q, f, hf, e⟩ := split_rung k h
      rcases Nat.eq_zero_or_pos q with hq | hq
      · subst hq; rw [e, sv_split 0 f hf, Nat.pow_zero, Nat.mul_one]
      · have hq1 : q = 1 := by omega
        have hf0 : f = 0 := by omega
        subst hq1; subst hf0; subst e
        exact sv_split 1 0 (by omega)
  | succ L =>
    have hb := hL (by omega)
    by_cases h : k < 9007199254740992
    · have e : (L + 1) * 4503599627370496 + k = (L + 1 + 1) * 4503599627370496 + (k - 4503599627370496) := by omega
      rw [e, sv_split (L + 1) _ (by omega)]
      have : 4503599627370496 + (k - 4503599627370496) = k := by omega
      rw [this]
    · have hk' : k = 9007199254740992 := by omega
      subst hk'
      have e : (L + 1) * 4503599627370496 + 9007199254740992 = (L + 1 + 1 + 1) * 4503599627370496 + 0 := by omega
      rw [e, sv_split (L + 1 + 1) _ (by omega), Nat.pow_succ 2 (L + 1), Nat.mul_comm (2 ^ (L + 1)) 2, ← Nat.mul_assoc]

theorem sv_at_succ {L k : Nat} (hk : k ≤ 9007199254740992) (hL : 0 < L → 4503599627370496 ≤ k) : (k + 1) * 2 ^ L ≤ sv (L * 4503599627370496 + k + 1) := by
  by_cases h : k < 9007199254740992
  · rw [Nat.add_assoc, sv_at (by omega) (fun h => by have := hL h; omega)]
    exact Nat.le_refl _
  · have hk' : k = 9007199254740992 := by omega
    subst hk'
    have e : L * 4503599627370496 + 9007199254740992 + 1 = (L + 1) * 4503599627370496 + 4503599627370497 := by omega
    rw [e, sv_at (by omega) (fun _ => by omega), Nat.pow_succ, Nat.mul_comm (2 ^ L) 2, ← Nat.mul_assoc]
    exact Nat.mul_le_mul_right _ (by omega)

/-- the core of a rounding: k units of 2 ^ L, half an even one apart at most -/
theorem rnd_core {L k A B c X : Nat} (hB : 0 < B) (hc : 0 < c)
    (hA : A * c = X * 2 ^ L * B)
    (hk : k ≤ 9007199254740992) (hL : 0 < L → 4503599627370496 ≤ k ∧ 4503599627370496 * c ≤ X)
    (up : 2 * X ≤ (2 * k + 1) * c) (up' : 2 * X = (2 * k + 1) * c → k % 2 = 0)
    (lo : 0 < k → (2 * k - 1) * c ≤ 2 * X) (lo' : 0 < k → (2 * k - 1) * c = 2 * X → k % 2 = 0) :
    Rnd (min (L * 4503599627370496 + k) 9218868437227405312) A B := by
  have hp : 0 < 2 ^ L := Nat.two_pow_pos L
  have s0 := sv_at hk (fun h => (hL h).1)
  have s1 := sv_at_succ hk (fun h => (hL h).1)
  have hA2 : 2 * A * c = 2 * X * (2 ^ L * B) := by rw [Nat.mul_assoc, hA, Nat.mul_assoc, Nat.mul_assoc]
  have hPB : 0 < 2 ^ L * B := Nat.mul_pos hp hB
  refine ⟨Nat.min_le_right _ _, fun r hr => ?_⟩
  have hmin : r < min (L * 4503599627370496 + k) 9218868437227405312 ↔ r < L * 4503599627370496 + k :=
    ⟨fun h => (Nat.lt_min.1 h).1, fun h => Nat.lt_min.2 ⟨h, hr⟩⟩
  rw [hmin]
  clear hmin
  constructor
  · intro hlt
    have m1 := sv_lt hlt
    have m2 := sv_le (show r + 1 ≤ L * 4503599627370496 + k from hlt)
    unfold above
    by_cases hedge : 0 < L ∧ k = 4503599627370496
    · left
      have hX := (hL hedge.1).2
      have h1 : (sv r + sv (r + 1)) < 2 * (4503599627370496 * 2 ^ L) := by rw [← hedge.2, ← s0]; omega
      have h2 : (sv r + sv (r + 1)) * B * c < 2 * A * c := by
        rw [hA2]
        have h3 : (sv r + sv (r + 1)) * (B * c) < 2 * (4503599627370496 * 2 ^ L) * (B * c) := Nat.mul_lt_mul_of_pos_right h1 (Nat.mul_pos hB hc)
        have h4 : 2 * (4503599627370496 * c) * (2 ^ L * B) ≤ 2 * X * (2 ^ L * B) := Nat.mul_le_mul_right _ (Nat.mul_le_mul_left 2 hX)
        have h5 : 2 * (4503599627370496 * 2 ^ L) * (B * c) = 2 * (4503599627370496 * c) * (2 ^ L * B) := by generalize 4503599627370496 = D; ac_rfl
        rw [Nat.mul_assoc]; omega
      exact Nat.lt_of_mul_lt_mul_right h2
    · have hk0 : 0 < k := by
        rcases Nat.eq_zero_or_pos k with h | h
        · subst h
          rcases Nat.eq_zero_or_pos L with h' | h'
          · subst h'; omega
          · have := (hL h').1; omega
        · exact h
      have e1 : L * 4503599627370496 + k - 1 = L * 4503599627370496 + (k - 1) := by omega
      have s2 : sv (L * 4503599627370496 + (k - 1)) = (k - 1) * 2 ^ L := sv_at (by omega) (fun h => by have := (hL h).1; omega)
      have m3 := sv_le (show r ≤ L * 4503599627370496 + (k - 1) from by omega)
      have hM : sv r + sv (r + 1) ≤ (2 * k - 1) * 2 ^ L := by
        have : (2 * k - 1) * 2 ^ L = (k - 1) * 2 ^ L + k * 2 ^ L := by rw [← Nat.add_mul]; exact congrArg (· * 2 ^ L) (by omega)
        omega
      have l1 := lo hk0
      have h1 : (sv r + sv (r + 1)) * (B * c) ≤ (2 * k - 1) * 2 ^ L * (B * c) := Nat.mul_le_mul_right _ hM
      have h2 : (2 * k - 1) * c * (2 ^ L * B) ≤ 2 * X * (2 ^ L * B) := Nat.mul_le_mul_right _ l1
      have h3 : (2 * k - 1) * 2 ^ L * (B * c) = (2 * k - 1) * c * (2 ^ L * B) := by ac_rfl
      have h4 : (sv r + sv (r + 1)) * B * c ≤ 2 * A * c := by rw [hA2, Nat.mul_assoc (sv r + sv (r + 1)) B c]; omega
      have h5 := Nat.le_of_mul_le_mul_right h4 hc
      rcases Nat.lt_or_ge ((sv r + sv (r + 1)) * B) (2 * A) with h6 | h6
      · exact .inl h6
      · right
        have h7 : (sv r + sv (r + 1)) * B = 2 * A := by omega
        refine ⟨h7, ?_⟩
        have h8 : (sv r + sv (r + 1)) * (B * c) = 2 * X * (2 ^ L * B) := by rw [← Nat.mul_assoc, h7, hA2]
        have h9 : (2 * k - 1) * c = 2 * X := Nat.eq_of_mul_eq_mul_right hPB (by omega)
        have h10 := lo' hk0 h9
        have h11 : sv r + sv (r + 1) = (2 * k - 1) * 2 ^ L := Nat.eq_of_mul_eq_mul_right (Nat.mul_pos hB hc) (by omega)
        have h12 : ¬ r < L * 4503599627370496 + (k - 1) := fun h => by
          have := sv_lt h
          have : (2 * k - 1) * 2 ^ L = (k - 1) * 2 ^ L + k * 2 ^ L := by rw [← Nat.add_mul]; exact congrArg (· * 2 ^ L) (by omega)
          omega
        have h13 : r = L * 4503599627370496 + (k - 1) := by omega
        clear h1 h2 h3 h4 h5 h6 h7 h8 h9 h11 h12 s0 s1 s2 m1 m2 m3 hM l1 hA hA2 up lo
        omega
  · intro hab
    rcases Nat.lt_or_ge r (L * 4503599627370496 + k) with hlt | hge
    · exact hlt
    · exfalso
      have m1 := sv_le hge
      have m2 : sv (L * 4503599627370496 + k + 1) ≤ sv (r + 1) := sv_le (Nat.succ_le_succ hge)
      have e2 : (2 * k + 1) * 2 ^ L = k * 2 ^ L + (k + 1) * 2 ^ L := by rw [← Nat.add_mul]; exact congrArg (· * 2 ^ L) (by omega)
      have hM : (2 * k + 1) * 2 ^ L ≤ sv r + sv (r + 1) := by omega
      have h1 : (2 * k + 1) * 2 ^ L * (B * c) ≤ (sv r + sv (r + 1)) * (B * c) := Nat.mul_le_mul_right _ hM
      have h2 : 2 * X * (2 ^ L * B) ≤ (2 * k + 1) * c * (2 ^ L * B) := Nat.mul_le_mul_right _ up
      have h3 : (2 * k + 1) * 2 ^ L * (B * c) = (2 * k + 1) * c * (2 ^ L * B) := by ac_rfl
      have h4 : 2 * A * c ≤ (sv r + sv (r + 1)) * B * c := by rw [hA2, Nat.mul_assoc (sv r + sv (r + 1)) B c]; omega
      have h5 := Nat.le_of_mul_le_mul_right h4 hc
      rcases hab with h6 | ⟨h6, h7⟩
      · omega
      · have h8 : (sv r + sv (r + 1)) * (B * c) = 2 * X * (2 ^ L * B) := by rw [← Nat.mul_assoc, h6, hA2]
        have h9 : 2 * X = (2 * k + 1) * c := Nat.eq_of_mul_eq_mul_right hPB (by omega)
        have h10 := up' h9
        have h11 : sv r + sv (r + 1) = (2 * k + 1) * 2 ^ L := Nat.eq_of_mul_eq_mul_right (Nat.mul_pos hB hc) (by omega)
        have h12 : ¬ L * 4503599627370496 + k < r := fun h => by have := sv_lt h; omega
        have h13 : r = L * 4503599627370496 + k := by omega
        clear h1 h2 h3 h4 h5 h6 h8 h9 h11 h12 s0 s1 m1 m2 hM e2 hA hA2 up lo
        omega

theorem cut_even (neg : Bool) (n drop : Nat) :
    ∃ k, Toward.even.cut neg n drop = k ∧ 2 * n ≤ (2 * k + 1) * 2 ^ drop ∧ (2 * n = (2 * k + 1) * 2 ^ drop → k % 2 = 0) ∧
      (0 < k → (2 * k - 1) * 2 ^ drop ≤ 2 * n) ∧ (0 < k → (2 * k - 1) * 2 ^ drop = 2 * n → k % 2 = 0) := by
  refine ⟨_, rfl, ?_⟩
  unfold Toward.cut
  simp only [Nat.one_shiftLeft]
  by_cases hd : drop ≤ n.log2 + 2
  · rw [Nat.min_eq_left hd]
    have hp : 0 < 2 ^ drop := Nat.two_pow_pos drop
    generalize 2 ^ drop = g at *
    have hn : n = g * (n / g) + n % g := (Nat.div_add_mod n g).symm
    have hr : n % g < g := Nat.mod_lt _ hp
    generalize n / g = q at *
    generalize n % g = r at *
    subst hn
    have e1 : (2 * (q + 1) + 1) * g = 2 * (g * q) + 3 * g := by
      rw [Nat.add_mul, Nat.mul_assoc, Nat.mul_comm (q + 1) g, Nat.mul_add]; omega
    have e0 : (2 * q + 1) * g = 2 * (g * q) + g := by
      rw [Nat.add_mul, Nat.mul_assoc, Nat.mul_comm q g]; omega
    have em : 0 < q → (2 * q - 1) * g = 2 * (g * q) - g := fun hq => by
      rw [Nat.sub_mul, Nat.mul_assoc, Nat.mul_comm q g]; omega
    have em1 : (2 * (q + 1) - 1) * g = 2 * (g * q) + g := by
      rw [show 2 * (q + 1) - 1 = 2 * q + 1 from by omega]; exact e0
    have hq2 : 0 < q → g ≤ g * q := fun hq => Nat.le_mul_of_pos_right g hq
    generalize g * q = gq at *
    by_cases h1 : g < 2 * r
    · simp only [h1, decide_true, Bool.true_or, Bool.toNat_true]
      refine ⟨by omega, by omega, fun _ => by omega, fun _ h => by omega⟩
    · by_cases h2 : g = 2 * r
      · by_cases h3 : q % 2 = 1
        · have : (decide (g < 2 * r) || g == 2 * r && q % 2 == 1) = true := by simp [h2, h3]
          rw [this, Bool.toNat_true]
          refine ⟨by omega, by omega, fun _ => by omega, fun _ h => by omega⟩
        · have : (decide (g < 2 * r) || g == 2 * r && q % 2 == 1) = false := by simp [h2, h3]
          rw [this, Bool.toNat_false]; simp only [Nat.add_zero]
          refine ⟨by omega, by omega, fun h => by have := em h; have := hq2 h; omega, fun h h' => by have := em h; have := hq2 h; omega⟩
      · have : (decide (g < 2 * r) || g == 2 * r && q % 2 == 1) = false := by simp [h1, h2]
        rw [this, Bool.toNat_false]; simp only [Nat.add_zero]
        refine ⟨by omega, by omega, fun h => by have := em h; have := hq2 h; omega, fun h h' => by have := em h; have := hq2 h; omega⟩
  · rw [Nat.min_eq_right (by omega)]
    have h1 : 2 * n < 2 ^ (n.log2 + 2) := by
      have : n < 2 ^ (n.log2 + 1) := Nat.lt_log2_self
      rw [Nat.pow_succ]; omega
    have h2 : n / 2 ^ (n.log2 + 2) = 0 := Nat.div_eq_of_lt (by omega)
    have h3 : n % 2 ^ (n.log2 + 2) = n := Nat.mod_eq_of_lt (by omega)
    have h4 : 2 ^ (n.log2 + 2) ≤ 2 ^ drop := Nat.pow_le_pow_right (by omega) (by omega)
    rw [h2, h3]
    have h5 : (decide (2 ^ (n.log2 + 2) < 2 * n) || 2 ^ (n.log2 + 2) == 2 * n && 0 % 2 == 1) = false := by
      simp; omega
    rw [h5, Bool.toNat_false]
    refine ⟨by omega, by omega, by omega, by omega⟩

theorem pow_le_of {a b : Nat} (h : a ≤ b) : 2 ^ a ≤ 2 ^ b := Nat.pow_le_pow_right (by omega) h

theorem nearest_rnd (neg : Bool) (mag : Nat) (place : Int) (hm : mag ≠ 0) :
    ∃ r, double.nearest neg mag place = double.word neg r ∧ Rnd r (mag * 2 ^ (place + 1074).toNat) (2 ^ (-(place + 1074)).toNat) := by
  unfold Format.nearest
  rw [if_neg hm, d_frac, d_least, d_binade, d_inf]
  refine ⟨_, rfl, ?_⟩
  have hl1 : 2 ^ mag.log2 ≤ mag := Nat.log2_self_le hm
  have hl2 : mag < 2 ^ (mag.log2 + 1) := Nat.lt_log2_self
  generalize mag.log2 = l at *
  simp only [Nat.shiftLeft_eq]
  have hlast : max (place + (l : Int) - (52 : Nat)) (-1074) = max (place + l - 52) (-1074) := rfl
  rw [hlast]
  obtain ⟨L, hL⟩ : ∃ L : Nat, max (place + (l : Int) - 52) (-1074) = (L : Int) - 1074 := ⟨(max (place + (l : Int) - 52) (-1074) + 1074).toNat, by omega⟩
  rw [hL]
  have e1 : ((L : Int) - 1074 - -1074).toNat = L := by omega
  rw [e1]
  obtain ⟨k, hk, u1, u2, l1, l2⟩ := cut_even neg (mag * 2 ^ (place - ((L : Int) - 1074)).toNat) ((L : Int) - 1074 - place).toNat
  rw [hk]
  clear hk
  have hcases : (place - ((L : Int) - 1074)).toNat = 0 ∨ ((L : Int) - 1074 - place).toNat = 0 := by omega
  -- the scaled number lies below 2 ^ 53
  have hX : mag * 2 ^ (place - ((L : Int) - 1074)).toNat < 9007199254740992 * 2 ^ ((L : Int) - 1074 - place).toNat := by
    have h1 : mag * 2 ^ (place - ((L : Int) - 1074)).toNat < 2 ^ (l + 1) * 2 ^ (place - ((L : Int) - 1074)).toNat := Nat.mul_lt_mul_of_pos_right hl2 (Nat.two_pow_pos _)
    have h2 : 2 ^ (l + 1) * 2 ^ (place - ((L : Int) - 1074)).toNat ≤ 9007199254740992 * 2 ^ ((L : Int) - 1074 - place).toNat := by
      rw [← Nat.pow_add, show (9007199254740992 : Nat) = 2 ^ 53 from rfl, ← Nat.pow_add]
      exact pow_le_of (by omega)
    omega
  have hX2 : 0 < L → 4503599627370496 * 2 ^ ((L : Int) - 1074 - place).toNat ≤ mag * 2 ^ (place - ((L : Int) - 1074)).toNat := fun h0 => by
    have h1 : 2 ^ l * 2 ^ (place - ((L : Int) - 1074)).toNat ≤ mag * 2 ^ (place - ((L : Int) - 1074)).toNat := Nat.mul_le_mul_right _ hl1
    have h2 : 4503599627370496 * 2 ^ ((L : Int) - 1074 - place).toNat ≤ 2 ^ l * 2 ^ (place - ((L : Int) - 1074)).toNat := by
      rw [← Nat.pow_add, show (4503599627370496 : Nat) = 2 ^ 52 from rfl, ← Nat.pow_add]
      exact pow_le_of (by omega)
    omega
  have hpow : 2 ^ (place + 1074).toNat * 2 ^ ((L : Int) - 1074 - place).toNat = 2 ^ (place - ((L : Int) - 1074)).toNat * 2 ^ L * 2 ^ (-(place + 1074)).toNat := by
    rw [← Nat.pow_add, ← Nat.pow_add, ← Nat.pow_add]
    exact congrArg (2 ^ ·) (by omega)
  have hc : 0 < 2 ^ ((L : Int) - 1074 - place).toNat := Nat.two_pow_pos _
  have hB : 0 < 2 ^ (-(place + 1074)).toNat := Nat.two_pow_pos _
  clear hlast e1 hcases hL hl1 hl2
  generalize (place - ((L : Int) - 1074)).toNat = x1 at *
  generalize 2 ^ ((L : Int) - 1074 - place).toNat = c at *
  generalize 2 ^ (-(place + 1074)).toNat = B at *
  generalize 2 ^ (place + 1074).toNat = A at *
  refine rnd_core (X := mag * 2 ^ x1) (c := c) hB hc ?_ ?_ ?_ u1 u2 l1 l2
  · rw [Nat.mul_assoc, hpow, Nat.mul_assoc, Nat.mul_assoc, Nat.mul_assoc]
  · -- k is at most 2 ^ 53
    rcases Nat.lt_or_ge 9007199254740992 k with h | h
    · exfalso
      have h1 := l1 (by omega)
      have h2 : (2 * 9007199254740993 - 1) * c ≤ (2 * k - 1) * c := Nat.mul_le_mul_right _ (by omega)
      omega
    · exact h
  · intro h0
    have h3 := hX2 h0
    refine ⟨?_, h3⟩
    rcases Nat.lt_or_ge k 4503599627370496 with h | h
    · exfalso
      have h2 : (2 * k + 1) * c ≤ (2 * 4503599627370495 + 1) * c := Nat.mul_le_mul_right _ (by omega)
      omega
    · exact h
end PF
set_option linter.unusedSimpArgs false
set_option linter.unusedVariables false
namespace PF
open Ieee

theorem read_def (w : Nat) : double.read w =
    (if w % 9223372036854775808 < 4503599627370496 then .number (w / 9223372036854775808 % 2 == 1) (w % 9223372036854775808) (-1074)
     else if w % 9223372036854775808 < 9218868437227405312 then
      .number (w / 9223372036854775808 % 2 == 1) (4503599627370496 + w % 9223372036854775808 % 4503599627370496) (-1074 + (w % 9223372036854775808 / 4503599627370496 - 1 : Nat))
     else if w % 9223372036854775808 = 9218868437227405312 then .infinity (w / 9223372036854775808 % 2 == 1)
     else .nan (w / 9223372036854775808 % 2 == 1) (w % 9223372036854775808 - 9218868437227405312)) := by
  unfold Format.read
  rw [d_sign, d_binade, d_inf, d_least]

/-- a finite word -/
def Fin (w : Nat) : Prop := w < 18446744073709551616 ∧ w % 9223372036854775808 < 9218868437227405312

def sgn (s : Bool) (m : Nat) : Int := if s then -(m : Int) else m

/-- what a finite word stands for, times 2 ^ 1074 -/
def V (w : Nat) : Int := sgn (w / 9223372036854775808 % 2 == 1) (sv (w % 9223372036854775808))

theorem read_fin {w : Nat} (h : Fin w) : ∃ m i, double.read w = .number (w / 9223372036854775808 % 2 == 1) m i ∧ -1074 ≤ i ∧ m < 9007199254740992 ∧ m * 2 ^ (i + 1074).toNat = sv (w % 9223372036854775808) := by
  rw [read_def]
  have h2 := h.2
  generalize w % 9223372036854775808 = r at *
  by_cases h1 : r < 4503599627370496
  · rw [if_pos h1]
    refine ⟨_, _, rfl, by omega, by omega, ?_⟩
    rw [sv_small h1, show ((-1074 : Int) + 1074).toNat = 0 from rfl, Nat.pow_zero, Nat.mul_one]
  · rw [if_neg h1, if_pos h2]
    refine ⟨_, _, rfl, by omega, by omega, ?_⟩
    rw [sv_def, if_neg h1]
    congr 2
    omega

theorem signed_eq (s : Bool) (m u : Nat) : signed s m u = sgn s (m * 2 ^ u) := by
  unfold signed sgn
  rw [Nat.shiftLeft_eq]

theorem sgn_mul (s : Bool) (m k : Nat) : sgn s (m * k) = sgn s m * (k : Int) := by
  unfold sgn
  cases s <;> simp [Int.neg_mul]

theorem sgn_natAbs (s : Bool) (m : Nat) : (sgn s m).natAbs = m := by
  unfold sgn; cases s <;> simp

theorem compare_mul (a b : Int) (k : Nat) (hk : 0 < k) : compare (a * k) (b * k) = compare a b := by
  have hk' : (0 : Int) < k := by omega
  simp only [compare, compareOfLessAndEq]
  have h1 : a * k < b * k ↔ a < b := Int.mul_lt_mul_right hk'
  have h2 : a * k = b * k ↔ a = b := ⟨fun h => Int.eq_of_mul_eq_mul_right (by omega) h, fun h => by rw [h]⟩
  simp only [h1, h2]

theorem shift_V {m : Nat} {i base : Int} {s : Bool} (hi : -1074 ≤ base) (hb : base ≤ i) :
    sgn s (m * 2 ^ (i + 1074).toNat) = signed s m (i - base).toNat * ((2 ^ (base + 1074).toNat : Nat) : Int) := by
  rw [signed_eq, ← sgn_mul, Nat.mul_assoc, ← Nat.pow_add]
  congr 3
  omega

theorem order_fin {x y : Nat} (hx : Fin x) (hy : Fin y) : double.order x y = some (compare (V x) (V y)) := by
  obtain ⟨m, i, ex, hi, _, vx⟩ := read_fin hx
  obtain ⟨n, j, ey, hj, _, vy⟩ := read_fin hy
  unfold Format.order
  rw [ex, ey]
  unfold Datum.order
  dsimp only
  congr 1
  unfold V
  rw [← vx, ← vy, shift_V (base := min i j) (by omega) (by omega), shift_V (base := min i j) (i := j) (by omega) (by omega), compare_mul _ _ _ (Nat.two_pow_pos _)]

theorem word_def (s : Bool) (r : Nat) : double.word s r = if s then 9223372036854775808 + r else r := by
  unfold Format.word
  rw [d_sign]

theorem word_mod {s : Bool} {r : Nat} (h : r ≤ 9218868437227405312) : double.word s r % 9223372036854775808 = r := by
  rw [word_def]
  cases s
  · rw [if_neg (by simp)]; omega
  · rw [if_pos rfl]; omega

theorem word_sign {s : Bool} {r : Nat} (h : r ≤ 9218868437227405312) : (double.word s r / 9223372036854775808 % 2 == 1) = s := by
  rw [word_def]
  cases s
  · rw [if_neg (by simp)]
    have : r / 9223372036854775808 % 2 = 0 := by omega
    rw [this]; rfl
  · rw [if_pos rfl]
    have : (9223372036854775808 + r) / 9223372036854775808 % 2 = 1 := by omega
    rw [this]; rfl

theorem word_lt {s : Bool} {r : Nat} (h : r ≤ 9218868437227405312) : double.word s r < 18446744073709551616 := by
  rw [word_def]
  split <;> omega

theorem word_fin {s : Bool} {r : Nat} (h : r < 9218868437227405312) : Fin (double.word s r) :=
  ⟨word_lt (by omega), by rw [word_mod (by omega)]; exact h⟩

theorem word_V {s : Bool} {r : Nat} (h : r ≤ 9218868437227405312) : V (double.word s r) = sgn s (sv r) := by
  unfold V; rw [word_mod h, word_sign h]

theorem fin_word {w : Nat} (h : Fin w) : w = double.word (w / 9223372036854775808 % 2 == 1) (w % 9223372036854775808) := by
  rw [word_def]
  have h1 := h.1
  by_cases hs : w / 9223372036854775808 % 2 = 1
  · rw [if_pos (by simp [hs])]; omega
  · rw [if_neg (by simp [hs])]; omega

/-- a finite number in its place, and what it is times 2 ^ 1074 -/
theorem sum_fin {s t : Bool} {m n : Nat} {i j : Int} (hi : -1074 ≤ i) (hj : -1074 ≤ j) {a b : Int}
    (ha : sgn s (m * 2 ^ (i + 1074).toNat) = a) (hb : sgn t (n * 2 ^ (j + 1074).toNat) = b) :
    ∃ q r, ((Datum.number s m i).sum (.number t n j)).map double.write = some (double.word q r) ∧ Rnd r (a + b).natAbs 1 ∧
      (a + b ≠ 0 → q = decide (a + b < 0)) ∧ (a + b = 0 → q = (s && t) ∧ r = 0) := by
  unfold Datum.sum
  dsimp only
  rw [shift_V (base := min i j) (by omega) (by omega)] at ha hb
  have he : a + b = (signed s m (i - min i j).toNat + signed t n (j - min i j).toNat) * ((2 ^ (min i j + 1074).toNat : Nat) : Int) := by
    rw [Int.add_mul, ha, hb]
  have hp : 0 < 2 ^ (min i j + 1074).toNat := Nat.two_pow_pos _
  generalize signed s m (i - min i j).toNat + signed t n (j - min i j).toNat = T at *
  rw [Option.map_some]
  unfold Format.write
  dsimp only
  by_cases h0 : T = 0
  · subst h0
    rw [if_pos rfl]
    have hab : a + b = 0 := by rw [he]; simp
    refine ⟨(s && t), 0, ?_, ?_, fun h => absurd hab h, fun _ => ⟨rfl, rfl⟩⟩
    · unfold Format.nearest; rw [if_pos Int.natAbs_zero]
    · rw [hab]
      have h0 := Rnd.exact (r := 0) (by omega)
      rw [sv_zero] at h0
      exact h0
  · rw [if_neg h0]
    obtain ⟨r, hr, hR⟩ := nearest_rnd (decide (T < 0)) T.natAbs (min i j) (by omega)
    have hab : (a + b).natAbs = T.natAbs * 2 ^ (min i j + 1074).toNat := by
      rw [he, Int.natAbs_mul]; rfl
    have hs : a + b < 0 ↔ T < 0 := by
      rw [he]
      have hp' : (0 : Int) < ((2 ^ (min i j + 1074).toNat : Nat) : Int) := by omega
      constructor
      · intro h
        rcases Int.lt_or_le T 0 with h' | h'
        · exact h'
        · have := Int.mul_nonneg h' (Int.le_of_lt hp'); omega
      · intro h; exact Int.mul_neg_of_neg_of_pos h hp'
    have hz : a + b ≠ 0 := by
      rw [he]
      exact Int.mul_ne_zero h0 (by omega)
    have e0 : (-(min i j + 1074)).toNat = 0 := by omega
    rw [e0, Nat.pow_zero, ← hab] at hR
    refine ⟨decide (T < 0), r, by rw [hr], hR, fun _ => ?_, fun h => absurd h hz⟩
    simp only [hs]


theorem product_fin {s t : Bool} {m n : Nat} {i j : Int} (hi : -1074 ≤ i) (hj : -1074 ≤ j) {a b : Nat}
    (ha : m * 2 ^ (i + 1074).toNat = a) (hb : n * 2 ^ (j + 1074).toNat = b) (c : Nat) (hc : (c : Int) = 1074) :
    ∃ r, ((Datum.number s m i).product (.number t n j)).map double.write = some (double.word (s ^^ t) r) ∧ Rnd r (a * b) (2 ^ c) := by
  unfold Datum.product
  dsimp only
  rw [Option.map_some]
  unfold Format.write
  dsimp only
  by_cases h0 : m * n = 0
  · rw [h0]
    refine ⟨0, ?_, ?_⟩
    · unfold Format.nearest; rw [if_pos rfl]
    · have : a * b = 0 := by
        rw [← ha, ← hb]
        rcases Nat.mul_eq_zero.1 h0 with h | h <;> rw [h] <;> simp
      rw [this]
      exact Rnd.same (by omega) (Nat.two_pow_pos _) (by rw [sv_zero, Nat.zero_mul, Nat.zero_mul]) (Rnd.exact (r := 0) (by omega))
  · obtain ⟨r, hr, hR⟩ := nearest_rnd (s ^^ t) (m * n) (i + j) h0
    refine ⟨r, by rw [hr], Rnd.same (Nat.two_pow_pos _) (Nat.two_pow_pos _) ?_ hR⟩
    rw [← ha, ← hb]
    have e : 2 ^ (i + j + 1074).toNat * 2 ^ c = 2 ^ (i + 1074).toNat * 2 ^ (j + 1074).toNat * 2 ^ (-(i + j + 1074)).toNat := by
      rw [← Nat.pow_add, ← Nat.pow_add, ← Nat.pow_add]
      exact congrArg (2 ^ ·) (by omega)
    generalize 2 ^ (i + j + 1074).toNat = x1 at *
    generalize 2 ^ (-(i + j + 1074)).toNat = x2 at *
    generalize 2 ^ (i + 1074).toNat = x3 at *
    generalize 2 ^ (j + 1074).toNat = x4 at *
    generalize 2 ^ c = u at *
    calc m * n * x1 * u = m * n * (x1 * u) := by ac_rfl
      _ = m * n * (x3 * x4 * x2) := by rw [e]
      _ = m * x3 * (n * x4) * x2 := by ac_rfl

/-- the digit that tells of what is left over tells all that a rounding asks -/
theorem sticky {D n f g e : Nat} (hn : 0 < n) (hf : f = D / n) (hbig : 9007199254740992 ≤ f) (r : Nat) :
    above r ((2 * f + (D % n != 0).toNat) * 2 ^ g) (2 ^ (e + 1)) ↔ above r (D * 2 ^ g) (n * 2 ^ e) := by
  have hD : D = n * f + D % n := by rw [hf]; exact (Nat.div_add_mod D n).symm
  have hr : D % n < n := Nat.mod_lt _ hn
  generalize D % n = q at *
  clear hf
  unfold above
  obtain ⟨u, E, hu, hm⟩ : ∃ u E, u < 18014398509481984 ∧ sv r + sv (r + 1) = u * 2 ^ E := by
    by_cases h : r < 4503599627370496
    · refine ⟨2 * r + 1, 0, by omega, ?_⟩
      have h1 : sv (r + 1) = r + 1 := by
        have := sv_at (L := 0) (k := r + 1) (by omega) (by omega)
        rw [Nat.zero_mul, Nat.zero_add, Nat.pow_zero, Nat.mul_one] at this
        exact this
      rw [sv_small h, h1]; omega
    · obtain ⟨qq, ff, hff, rfl⟩ := split_rung r h
      refine ⟨2 * (4503599627370496 + ff) + 1, qq, by omega, ?_⟩
      have e1 : (qq + 1) * 4503599627370496 + ff = qq * 4503599627370496 + (4503599627370496 + ff) := by omega
      have h1 : sv ((qq + 1) * 4503599627370496 + ff + 1) = (4503599627370496 + ff + 1) * 2 ^ qq := by
        rw [e1, Nat.add_assoc, sv_at (by omega) (fun _ => by omega)]
      rw [sv_split qq ff hff, h1, ← Nat.add_mul]
      congr 1; omega
  rw [hm]
  -- both sides over 2 ^ (e + E) and 2 ^ g
  have key : ∀ Z : Nat, (2 * Z < 2 * f + (q != 0).toNat ↔ Z * n < D) ∧ (2 * Z = 2 * f + (q != 0).toNat ↔ Z * n = D) := by
    intro Z
    have h1 : Z ≤ f → Z * n ≤ n * f := fun h => by rw [Nat.mul_comm n]; exact Nat.mul_le_mul_right n h
    have h2 : Z + 1 ≤ f → Z * n + n ≤ n * f := fun h => by
      have := Nat.mul_le_mul_right n h
      rw [Nat.add_mul, Nat.one_mul] at this
      rw [Nat.mul_comm n]; exact this
    have h3 : f + 1 ≤ Z → n * f + n ≤ Z * n := fun h => by
      have := Nat.mul_le_mul_right n h
      rw [Nat.add_mul, Nat.one_mul] at this
      rw [Nat.mul_comm n]; exact this
    have h4 : f ≤ Z → n * f ≤ Z * n := fun h => by rw [Nat.mul_comm n]; exact Nat.mul_le_mul_right n h
    rcases Nat.eq_zero_or_pos q with h0 | h0
    · subst h0
      simp only [bne_self_eq_false, Bool.toNat_false]
      constructor <;> constructor <;> intro h
      · have := h2 (by omega); omega
      · rcases Nat.lt_or_ge Z f with h' | h'
        · omega
        · have := h4 h'; omega
      · have := h1 (by omega); have := h4 (by omega); omega
      · rcases Nat.lt_or_ge Z f with h' | h'
        · have := h2 h'; omega
        · rcases Nat.lt_or_ge f Z with h'' | h''
          · have := h3 h''; omega
          · omega
    · have hb : (q != 0) = true := by simp; omega
      rw [hb, Bool.toNat_true]
      constructor <;> constructor <;> intro h
      · have := h1 (by omega); omega
      · rcases Nat.lt_or_ge f Z with h' | h'
        · have := h3 h'; omega
        · omega
      · omega
      · rcases Nat.lt_or_ge f Z with h' | h'
        · have := h3 h'; omega
        · have := h1 h'; omega
  have hpg : 0 < 2 ^ g := Nat.two_pow_pos g
  by_cases hc : g + 1 ≤ E + e
  · -- the midpoint lies on the grid
    obtain ⟨d, hd⟩ : ∃ d, E + e = g + 1 + d := ⟨E + e - (g + 1), by omega⟩
    obtain ⟨k1, k2⟩ := key (u * 2 ^ d)
    have hE : 2 ^ E * 2 ^ e = 2 ^ g * 2 * 2 ^ d := by rw [← Nat.pow_add, hd, Nat.pow_add, Nat.pow_succ]
    have e1 : u * 2 ^ E * 2 ^ (e + 1) = 2 * (u * 2 ^ d) * (2 * 2 ^ g) := by
      rw [Nat.pow_succ]
      have : u * 2 ^ E * (2 ^ e * 2) = u * (2 ^ E * 2 ^ e) * 2 := by ac_rfl
      rw [this, hE]; ac_rfl
    have e2 : u * 2 ^ E * (n * 2 ^ e) = u * 2 ^ d * n * (2 * 2 ^ g) := by
      have : u * 2 ^ E * (n * 2 ^ e) = u * n * (2 ^ E * 2 ^ e) := by ac_rfl
      rw [this, hE]; ac_rfl
    rw [e1, e2, ← Nat.mul_assoc 2 _ (2 ^ g), ← Nat.mul_assoc 2 D (2 ^ g)]
    have e3 : 2 * (2 * f + (q != 0).toNat) * 2 ^ g = (2 * f + (q != 0).toNat) * (2 * 2 ^ g) := by ac_rfl
    have e4 : 2 * D * 2 ^ g = D * (2 * 2 ^ g) := by ac_rfl
    rw [e3, e4]
    have hp2 : 0 < 2 * 2 ^ g := by omega
    rw [Nat.mul_lt_mul_right hp2, Nat.mul_lt_mul_right hp2, Nat.mul_right_cancel_iff hp2, Nat.mul_right_cancel_iff hp2, k1, k2]
  · -- the midpoint lies below the number
    have hle : 2 ^ E * 2 ^ e ≤ 2 ^ g := by rw [← Nat.pow_add]; exact pow_le_of (by omega)
    have h1 : u * 2 ^ E * 2 ^ e < 18014398509481984 * 2 ^ g := by
      rw [Nat.mul_assoc]
      have : u * (2 ^ E * 2 ^ e) ≤ u * 2 ^ g := Nat.mul_le_mul_left u hle
      have : u * 2 ^ g < 18014398509481984 * 2 ^ g := Nat.mul_lt_mul_of_pos_right hu hpg
      omega
    constructor <;> intro _ <;> left
    · have e2 : u * 2 ^ E * (n * 2 ^ e) = u * 2 ^ E * 2 ^ e * n := by ac_rfl
      have h2 : u * 2 ^ E * 2 ^ e * n < 18014398509481984 * 2 ^ g * n := Nat.mul_lt_mul_of_pos_right h1 hn
      have h3 : 18014398509481984 * n ≤ 2 * D := by
        have : 9007199254740992 * n ≤ f * n := Nat.mul_le_mul_right n hbig
        rw [Nat.mul_comm f n] at this
        omega
      have h4 := Nat.mul_le_mul_right (2 ^ g) h3
      have e5 : 18014398509481984 * n * 2 ^ g = 18014398509481984 * 2 ^ g * n := Nat.mul_right_comm _ _ _
      have e6 : 2 * D * 2 ^ g = 2 * (D * 2 ^ g) := Nat.mul_assoc _ _ _
      omega
    · rw [Nat.pow_succ, ← Nat.mul_assoc]
      have h4 : 18014398509481984 * 2 ^ g ≤ (2 * f + (q != 0).toNat) * 2 ^ g := Nat.mul_le_mul_right _ (by omega)
      omega

theorem quotient_fin {s t : Bool} {m n : Nat} {i j : Int} (hi : -1074 ≤ i) (hj : -1074 ≤ j) {a b : Nat} (hm0 : m ≠ 0) (hn0 : n ≠ 0) (hm : m < 9007199254740992)
    (ha : m * 2 ^ (i + 1074).toNat = a) (hb : n * 2 ^ (j + 1074).toNat = b) (c : Nat) (hc : (c : Int) = 1074) :
    ∃ r, ((Datum.number s m i).quotient 54 (.number t n j)).map double.write = some (double.word (s ^^ t) r) ∧ Rnd r (a * 2 ^ c) b := by
  unfold Datum.quotient
  dsimp only
  rw [if_neg hn0, Option.map_some]
  unfold Format.write
  dsimp only
  have hl1 : 2 ^ n.log2 ≤ n := Nat.log2_self_le hn0
  have hl2 : n < 2 ^ (n.log2 + 1) := Nat.lt_log2_self
  have hl3 : 2 ^ m.log2 ≤ m := Nat.log2_self_le hm0
  have hlm : m.log2 < 53 := by
    rcases Nat.lt_or_ge m.log2 53 with h | h
    · exact h
    · have : 2 ^ 53 ≤ 2 ^ m.log2 := pow_le_of h
      omega
  generalize hmore : 54 + n.log2 - m.log2 = more
  have hD : 2 ^ (54 + n.log2) ≤ m * 2 ^ more := by
    have h1 : 2 ^ m.log2 * 2 ^ more ≤ m * 2 ^ more := Nat.mul_le_mul_right _ hl3
    rw [← Nat.pow_add, show m.log2 + more = 54 + n.log2 from by omega] at h1
    exact h1
  have hbig : 9007199254740992 ≤ m * 2 ^ more / n := by
    rw [Nat.le_div_iff_mul_le (by omega)]
    have h1 : 9007199254740992 * n ≤ 9007199254740992 * 2 ^ (n.log2 + 1) := Nat.mul_le_mul_left _ (by omega)
    have h2 : 9007199254740992 * 2 ^ (n.log2 + 1) = 2 ^ (54 + n.log2) := by
      rw [show (9007199254740992 : Nat) = 2 ^ 53 from rfl, ← Nat.pow_add]; exact congrArg (2 ^ ·) (by omega)
    omega
  rw [Nat.shiftLeft_eq]
  have hS0 : 2 * (m * 2 ^ more / n) + (m * 2 ^ more % n != 0).toNat ≠ 0 := by omega
  obtain ⟨r, hr, hR⟩ := nearest_rnd (s ^^ t) (2 * (m * 2 ^ more / n) + (m * 2 ^ more % n != 0).toNat) (i - j - more - 1) hS0
  refine ⟨r, by rw [hr], ?_⟩
  have hn : 0 < n := by omega
  -- to one scale
  have hR2 : Rnd r ((2 * (m * 2 ^ more / n) + (m * 2 ^ more % n != 0).toNat) * 2 ^ (i - j - more + 1074).toNat) (2 ^ ((-(i - j - more + 1074)).toNat + 1)) := by
    refine Rnd.same (Nat.two_pow_pos _) (Nat.two_pow_pos _) ?_ hR
    rw [Nat.mul_assoc, Nat.mul_assoc, ← Nat.pow_add, ← Nat.pow_add]
    rw [show (i - j - ↑more - 1 + 1074).toNat + ((-(i - j - ↑more + 1074)).toNat + 1) = (i - j - ↑more + 1074).toNat + (-(i - j - ↑more - 1 + 1074)).toNat from by omega]
  have hR3 : Rnd r (m * 2 ^ more * 2 ^ (i - j - more + 1074).toNat) (n * 2 ^ (-(i - j - more + 1074)).toNat) :=
    ⟨hR2.1, fun k hk => (hR2.2 k hk).trans (sticky hn rfl hbig k)⟩
  refine Rnd.same (Nat.mul_pos hn (Nat.two_pow_pos _)) ?_ ?_ hR3
  · rw [← hb]; exact Nat.mul_pos hn (Nat.two_pow_pos _)
  · rw [← ha, ← hb]
    have e : 2 ^ more * 2 ^ (i - j - more + 1074).toNat * 2 ^ (j + 1074).toNat = 2 ^ (i + 1074).toNat * 2 ^ c * 2 ^ (-(i - j - more + 1074)).toNat := by
      rw [← Nat.pow_add, ← Nat.pow_add, ← Nat.pow_add, ← Nat.pow_add]
      exact congrArg (2 ^ ·) (by omega)
    generalize 2 ^ more = x0 at *
    generalize 2 ^ (i - j - more + 1074).toNat = x1 at *
    generalize 2 ^ (-(i - j - more + 1074)).toNat = x2 at *
    generalize 2 ^ (i + 1074).toNat = x3 at *
    generalize 2 ^ (j + 1074).toNat = x4 at *
    generalize 2 ^ c = x5 at *
    calc m * x0 * x1 * (n * x4) = m * n * (x0 * x1 * x4) := by ac_rfl
      _ = m * n * (x3 * x5 * x2) := by rw [e]
      _ = m * x3 * x5 * (n * x2) := by ac_rfl

/-! ### whole numbers -/

def e74 : Nat := 1074
theorem e74_eq : e74 = 1074 := rfl
theorem e74_int : (e74 : Int) = 1074 := rfl
attribute [irreducible] e74
def U : Nat := 2 ^ e74
theorem U_pos : 0 < U := Nat.two_pow_pos _
theorem U_def : U = 2 ^ e74 := rfl
attribute [irreducible] U

/-- the word x stands for the whole number n -/
structure Rep (x : Nat) (n : Int) : Prop where
  fin : Fin x
  val : V x = n * U
  bd : n.natAbs ≤ 9007199254740992

theorem rep_rung (k : Nat) (hk : k ≤ 9007199254740992) : ∃ r, sv r = k * U ∧ r < 9218868437227405312 := by
  rcases Nat.lt_or_ge k 9007199254740992 with h | h
  · obtain ⟨r, h1, h2⟩ := rep e74 k h
    rw [← U_def] at h1
    exact ⟨r, h1, by rw [e74_eq] at h2; omega⟩
  · have : k = 9007199254740992 := by omega
    subst this
    refine ⟨e74 * 4503599627370496 + 9007199254740992, ?_, by rw [e74_eq]; omega⟩
    rw [sv_at (by omega) (fun _ => by omega), U_def]

/-- a word that was rounded from a whole number stands for it -/
theorem Rep.of_rnd {s : Bool} {r : Nat} {n : Int} {A B : Nat} (hB : 0 < B) (hR : Rnd r A B) (hA : A = n.natAbs * U * B) (hn : n.natAbs ≤ 9007199254740992) (hs : n ≠ 0 → s = decide (n < 0)) :
    Rep (double.word s r) n ∧ sv r = n.natAbs * U ∧ r < 9218868437227405312 := by
  obtain ⟨r0, h1, h2⟩ := rep_rung _ hn
  have hr : r = r0 := Rnd.uniq hB (by omega) (by rw [h1, hA, Nat.mul_one]) hR (Rnd.exact (Nat.le_of_lt h2))
  subst hr
  refine ⟨⟨word_fin h2, ?_, hn⟩, h1, h2⟩
  rw [word_V (Nat.le_of_lt h2), h1]
  by_cases h0 : n = 0
  · subst h0; cases s <;> simp [sgn]
  · rw [hs h0]
    unfold sgn
    by_cases hneg : n < 0
    · rw [if_pos (by simpa using hneg)]
      have : ((n.natAbs : Nat) : Int) = -n := by omega
      rw [Int.natCast_mul, this, Int.neg_mul, Int.neg_neg]
    · rw [if_neg (by simpa using hneg)]
      have : ((n.natAbs : Nat) : Int) = n := by omega
      rw [Int.natCast_mul, this]

theorem order_rep {x y : Nat} {a b : Int} (hx : Rep x a) (hy : Rep y b) : double.order x y = some (compare a b) := by
  rw [order_fin hx.fin hy.fin, hx.val, hy.val, compare_mul _ _ _ U_pos]

theorem natAbs_add_U (a b : Int) : (a * (U : Int) + b * U).natAbs = (a + b).natAbs * U := by
  rw [← Int.add_mul, Int.natAbs_mul]; rfl

theorem addU_zero (a b : Int) : (a * (U : Int) + b * U ≠ 0 ↔ a + b ≠ 0) ∧ (a * (U : Int) + b * U < 0 ↔ a + b < 0) := by
  have hU : (0 : Int) < U := by have := U_pos; omega
  rw [← Int.add_mul]
  constructor
  · constructor
    · intro h h'; exact h (by rw [h']; simp)
    · intro h; exact Int.mul_ne_zero h (by omega)
  · constructor
    · intro h
      rcases Int.lt_or_le (a + b) 0 with h' | h'
      · exact h'
      · have := Int.mul_nonneg h' (Int.le_of_lt hU); omega
    · intro h; exact Int.mul_neg_of_neg_of_pos h hU

theorem add_rep {x y : Nat} {a b : Int} (hx : Rep x a) (hy : Rep y b) (hb : (a + b).natAbs ≤ 9007199254740992) :
    ∃ r, double.add x y = some r ∧ Rep r (a + b) := by
  obtain ⟨m, i, ex, hi, _, vx⟩ := read_fin hx.fin
  obtain ⟨n, j, ey, hj, _, vy⟩ := read_fin hy.fin
  unfold Format.add
  rw [ex, ey]
  obtain ⟨q, r, h1, h2, h3, _⟩ := sum_fin hi hj (a := a * U) (b := b * U) (by rw [vx]; exact hx.val) (by rw [vy]; exact hy.val)
  refine ⟨_, h1, (Rep.of_rnd (by omega) h2 (by rw [natAbs_add_U, Nat.mul_one]) hb fun h0 => ?_).1⟩
  rw [h3 ((addU_zero a b).1.2 h0)]
  simp only [(addU_zero a b).2]

theorem sub_rep {x y : Nat} {a b : Int} (hx : Rep x a) (hy : Rep y b) (hb : (a - b).natAbs ≤ 9007199254740992) :
    ∃ r, double.sub x y = some r ∧ Rep r (a - b) := by
  obtain ⟨m, i, ex, hi, _, vx⟩ := read_fin hx.fin
  obtain ⟨n, j, ey, hj, _, vy⟩ := read_fin hy.fin
  unfold Format.sub
  rw [ex, ey]
  unfold Datum.opposite
  dsimp only
  have hneg : ∀ (s : Bool) (k : Nat), sgn (!s) k = - sgn s k := fun s k => by cases s <;> simp [sgn]
  obtain ⟨q, r, h1, h2, h3, _⟩ := sum_fin (t := !(y / 9223372036854775808 % 2 == 1)) hi hj (a := a * U) (b := (-b) * U) (by rw [vx]; exact hx.val) (by rw [vy, hneg, Int.neg_mul, ← hy.val]; rfl)
  have e : a - b = a + -b := by omega
  rw [e]
  refine ⟨_, h1, (Rep.of_rnd (by omega) h2 (by rw [natAbs_add_U, Nat.mul_one]) (by rw [← e]; exact hb) fun h0 => ?_).1⟩
  rw [h3 ((addU_zero a (-b)).1.2 h0)]
  simp only [(addU_zero a (-b)).2]

theorem sgn_abs {s : Bool} {k : Nat} {n : Int} (h : sgn s k = n * U) : k = n.natAbs * U := by
  have := congrArg Int.natAbs h
  rw [sgn_natAbs, Int.natAbs_mul] at this
  exact this

theorem sgn_sign {s : Bool} {k : Nat} {n : Int} (h : sgn s k = n * U) (h0 : n ≠ 0) : s = decide (n < 0) := by
  have hU : (0 : Int) < U := by have := U_pos; omega
  cases s
  · have : (0 : Int) ≤ n * U := by rw [← h]; simp [sgn]
    have : ¬ n < 0 := fun h' => by have := Int.mul_neg_of_neg_of_pos h' hU; omega
    simp [this]
  · have h1 : n * U ≤ 0 := by rw [← h]; simp [sgn]
    have : n < 0 := by
      rcases Int.lt_or_le 0 n with h' | h'
      · have := Int.mul_pos h' hU; omega
      · omega
    simp [this]

theorem mul_rep {x y : Nat} {a b : Int} (hx : Rep x a) (hy : Rep y b) (hb : (a * b).natAbs ≤ 9007199254740992) :
    ∃ r, double.mul x y = some r ∧ Rep r (a * b) := by
  obtain ⟨m, i, ex, hi, _, vx⟩ := read_fin hx.fin
  obtain ⟨n, j, ey, hj, _, vy⟩ := read_fin hy.fin
  unfold Format.mul
  rw [ex, ey]
  obtain ⟨r, h1, h2⟩ := product_fin (s := x / 9223372036854775808 % 2 == 1) (t := y / 9223372036854775808 % 2 == 1) hi hj vx vy e74 e74_int
  refine ⟨_, h1, (Rep.of_rnd (Nat.two_pow_pos _) h2 ?_ hb fun h0 => ?_).1⟩
  · have e1 := sgn_abs hx.val
    have e2 := sgn_abs hy.val
    rw [e1, e2, Int.natAbs_mul, ← U_def]
    ac_rfl
  · have ha : a ≠ 0 := fun h => h0 (by rw [h]; simp)
    have hb : b ≠ 0 := fun h => h0 (by rw [h]; simp)
    have e1 := sgn_sign hx.val ha
    have e2 := sgn_sign hy.val hb
    rw [e1, e2]
    rcases Int.lt_or_gt_of_ne ha with h1 | h1 <;> rcases Int.lt_or_gt_of_ne hb with h2 | h2
    · have := Int.mul_pos_of_neg_of_neg h1 h2
      simp [h1, h2]; omega
    · have := Int.mul_neg_of_neg_of_pos h1 h2
      have : ¬ b < 0 := by omega
      simp [*]
    · have := Int.mul_neg_of_pos_of_neg h1 h2
      have : ¬ a < 0 := by omega
      simp [*]
    · have := Int.mul_pos h1 h2
      have : ¬ a < 0 := by omega
      have : ¬ b < 0 := by omega
      have : ¬ a * b < 0 := by omega
      simp [*]
end PF
set_option linter.unusedSimpArgs false
set_option linter.unusedVariables false
namespace PF
open Ieee Go

theorem U_pow (k : Int) (hk : k = 1074) : 2 ^ k.toNat = U := by
  rw [U_def]
  exact congrArg (2 ^ ·) (by rw [e74_eq]; omega)

/-- the word of a whole number -/
def fb (n : Int) : Nat := floatOfInt .f64 n

theorem fb_def (n : Int) : fb n = double.nearest (n < 0) n.natAbs 0 := rfl

theorem fb_word (n : Int) (hn : n.natAbs ≤ 9007199254740992) : ∃ r, fb n = double.word (decide (n < 0)) r ∧ sv r = n.natAbs * U ∧ r < 9218868437227405312 := by
  rw [fb_def]
  by_cases h0 : n = 0
  · subst h0
    refine ⟨0, ?_, ?_, by omega⟩
    · unfold Format.nearest; rw [if_pos Int.natAbs_zero]
    · rw [sv_zero]; simp
  · obtain ⟨r, hr, hR⟩ := nearest_rnd (decide (n < 0)) n.natAbs 0 (by omega)
    rw [U_pow (0 + 1074) (by omega), show (-((0 : Int) + 1074)).toNat = 0 from rfl, Nat.pow_zero] at hR
    have := Rep.of_rnd (s := decide (n < 0)) (n := n) (by omega) hR (by rw [Nat.mul_one]) hn (fun _ => rfl)
    exact ⟨r, hr, this.2.1, this.2.2⟩

theorem fb_rep (n : Int) (hn : n.natAbs ≤ 9007199254740992) : Rep (fb n) n := by
  obtain ⟨r, h1, h2, h3⟩ := fb_word n hn
  rw [h1]
  exact (Rep.of_rnd (by omega) (Rnd.exact (Nat.le_of_lt h3)) (by rw [h2, Nat.mul_one]) hn (fun _ => rfl)).1



theorem toInt_rep {x : Nat} {n : Int} (h : Rep x n) : floatToIntVal .f64 x .i64 = some n := by
  unfold floatToIntVal
  obtain ⟨m, i, ex, hi, hm, vx⟩ := read_fin h.fin
  have hd : FloatKind.f64.decode x = .number (x / 9223372036854775808 % 2 == 1) m i := ex
  rw [hd]
  have hv : sgn (x / 9223372036854775808 % 2 == 1) (m * 2 ^ (i + 1074).toNat) = n * U := by rw [vx]; exact h.val
  have ha := sgn_abs hv
  have hcut : Toward.zero.cut (x / 9223372036854775808 % 2 == 1) (m <<< i.toNat) (-i).toNat = n.natAbs := by
    unfold Toward.cut
    simp only [Bool.toNat_false, Nat.add_zero, Nat.shiftLeft_eq, Nat.one_mul]
    have hp : 2 ^ (i + 1074).toNat * 2 ^ (-i).toNat = U * 2 ^ i.toNat := by
      rw [← U_pow 1074 rfl, ← Nat.pow_add, ← Nat.pow_add]
      exact congrArg (2 ^ ·) (by omega)
    have key : m * 2 ^ i.toNat = n.natAbs * 2 ^ (-i).toNat := by
      have : m * 2 ^ i.toNat * U = n.natAbs * 2 ^ (-i).toNat * U := by
        calc m * 2 ^ i.toNat * U = m * (U * 2 ^ i.toNat) := by ac_rfl
          _ = m * (2 ^ (i + 1074).toNat * 2 ^ (-i).toNat) := by rw [hp]
          _ = m * 2 ^ (i + 1074).toNat * 2 ^ (-i).toNat := by ac_rfl
          _ = n.natAbs * U * 2 ^ (-i).toNat := by rw [ha]
          _ = _ := by ac_rfl
      exact Nat.eq_of_mul_eq_mul_right U_pos this
    rw [key]
    by_cases hle : (-i).toNat ≤ (n.natAbs * 2 ^ (-i).toNat).log2 + 2
    · rw [Nat.min_eq_left hle]
      exact Nat.mul_div_cancel _ (Nat.two_pow_pos _)
    · rw [Nat.min_eq_right (by omega)]
      have hlt : n.natAbs * 2 ^ (-i).toNat < 2 ^ ((n.natAbs * 2 ^ (-i).toNat).log2 + 1) := Nat.lt_log2_self
      have hz : n.natAbs = 0 := by
        rcases Nat.eq_zero_or_pos n.natAbs with h0 | h0
        · exact h0
        · exfalso
          have h1 : 2 ^ (-i).toNat ≤ n.natAbs * 2 ^ (-i).toNat := Nat.le_mul_of_pos_left _ h0
          have h2 : 2 ^ ((n.natAbs * 2 ^ (-i).toNat).log2 + 1) ≤ 2 ^ (-i).toNat := pow_le_of (by omega)
          omega
      rw [hz, Nat.zero_mul, Nat.zero_div]
  unfold Datum.toInt Datum.integral
  simp only [hcut]
  have hs : signed (x / 9223372036854775808 % 2 == 1) n.natAbs 0 = n := by
    rw [signed_eq, Nat.pow_zero, Nat.mul_one]
    by_cases h0 : n = 0
    · subst h0; cases (x / 9223372036854775808 % 2 == 1) <;> simp [sgn]
    · rw [sgn_sign hv h0]
      unfold sgn
      by_cases hneg : n < 0
      · rw [if_pos (by simpa using hneg)]; omega
      · rw [if_neg (by simpa using hneg)]; omega
  rw [hs]
  have hb := h.bd
  have hr : IntKind.i64.min ≤ n ∧ n ≤ IntKind.i64.max := by
    have h1 : IntKind.i64.min = -9223372036854775808 := by decide
    have h2 : IntKind.i64.max = 9223372036854775807 := by decide
    rw [h1, h2]; omega
  rw [if_pos hr]


/-! ### quotients -/

/-- x is a whole number's quotient, rounded -/
def Quo (x : Nat) (a b : Int) : Prop :=
  ∃ s q, x = double.word s q ∧ Rnd q (a.natAbs * U) b.natAbs ∧ (a ≠ 0 → s = (decide (a < 0) ^^ decide (b < 0)))

theorem div_rep {x y : Nat} {a b : Int} (hx : Rep x a) (hy : Rep y b) (hb : b ≠ 0) : ∃ w, double.div x y = some w ∧ Quo w a b := by
  obtain ⟨m, i, ex, hi, hm, vx⟩ := read_fin hx.fin
  obtain ⟨n, j, ey, hj, hn, vy⟩ := read_fin hy.fin
  have ea := sgn_abs hx.val
  have eb := sgn_abs hy.val
  have hB : 0 < b.natAbs := by omega
  have hn0 : n ≠ 0 := by
    intro h; subst h
    rw [← vy, Nat.zero_mul] at eb
    have := Nat.mul_pos hB U_pos
    omega
  unfold Format.div
  rw [ex, ey, d_frac]
  by_cases ha : a = 0
  · subst ha
    have hm0 : m = 0 := by
      have h1 : m * 2 ^ (i + 1074).toNat = 0 := by rw [vx, ea]; simp
      rcases Nat.mul_eq_zero.1 h1 with h | h
      · exact h
      · have := Nat.two_pow_pos (i + 1074).toNat; omega
    subst hm0
    refine ⟨_, ?_, (x / 9223372036854775808 % 2 == 1) ^^ (y / 9223372036854775808 % 2 == 1), 0, rfl, ?_, fun h => absurd rfl h⟩
    · unfold Datum.quotient
      dsimp only
      rw [if_neg hn0, Option.map_some]
      unfold Format.write
      dsimp only
      rw [Nat.zero_shiftLeft, Nat.zero_div, Nat.zero_mod]
      unfold Format.nearest
      rw [if_pos (by simp)]
    · exact Rnd.same (by omega) hB (by rw [sv_zero]; simp) (Rnd.exact (r := 0) (by omega))
  · have hA : 0 < a.natAbs := by omega
    have hm0 : m ≠ 0 := by
      intro h; subst h
      rw [← vx, Nat.zero_mul] at ea
      have := Nat.mul_pos hA U_pos
      omega
    obtain ⟨r, h1, h2⟩ := quotient_fin (s := x / 9223372036854775808 % 2 == 1) (t := y / 9223372036854775808 % 2 == 1) hi hj hm0 hn0 hm vx vy e74 e74_int
    rw [← U_def, ea, eb] at h2
    refine ⟨_, h1, _, r, rfl, Rnd.same (Nat.mul_pos hB U_pos) hB ?_ h2, fun _ => ?_⟩
    · ac_rfl
    · rw [sgn_sign hx.val ha, sgn_sign hy.val hb]

/-- a quotient by nought of what is not nought is an infinity -/
theorem div_zero {x y : Nat} {a : Int} (hx : Rep x a) (hy : Rep y 0) (ha : a ≠ 0) :
    double.div x y = some (double.word (x / 9223372036854775808 % 2 == 1 ^^ y / 9223372036854775808 % 2 == 1) 9218868437227405312) := by
  obtain ⟨m, i, ex, hi, hm, vx⟩ := read_fin hx.fin
  obtain ⟨n, j, ey, hj, hn, vy⟩ := read_fin hy.fin
  have ea := sgn_abs hx.val
  have eb := sgn_abs hy.val
  have hA : 0 < a.natAbs := by omega
  have hn0 : n = 0 := by
    have h1 : n * 2 ^ (j + 1074).toNat = 0 := by rw [vy, eb]; simp
    rcases Nat.mul_eq_zero.1 h1 with h | h
    · exact h
    · have := Nat.two_pow_pos (j + 1074).toNat; omega
  have hm0 : m ≠ 0 := by
    intro h; subst h
    rw [← vx, Nat.zero_mul] at ea
    have := Nat.mul_pos hA U_pos
    omega
  subst hn0
  unfold Format.div
  rw [ex, ey]
  unfold Datum.quotient
  dsimp only
  rw [if_pos rfl, if_neg hm0, Option.map_some]
  unfold Format.write
  dsimp only
  rw [d_inf]

theorem div_nan {x y : Nat} (hx : Rep x 0) (hy : Rep y 0) : double.div x y = none := by
  obtain ⟨m, i, ex, hi, hm, vx⟩ := read_fin hx.fin
  obtain ⟨n, j, ey, hj, hn, vy⟩ := read_fin hy.fin
  have ea := sgn_abs hx.val
  have eb := sgn_abs hy.val
  have hn0 : n = 0 := by
    have h1 : n * 2 ^ (j + 1074).toNat = 0 := by rw [vy, eb]; simp
    rcases Nat.mul_eq_zero.1 h1 with h | h
    · exact h
    · have := Nat.two_pow_pos (j + 1074).toNat; omega
  have hm0 : m = 0 := by
    have h1 : m * 2 ^ (i + 1074).toNat = 0 := by rw [vx, ea]; simp
    rcases Nat.mul_eq_zero.1 h1 with h | h
    · exact h
    · have := Nat.two_pow_pos (i + 1074).toNat; omega
  subst hn0; subst hm0
  unfold Format.div
  rw [ex, ey]
  unfold Datum.quotient
  dsimp only
  rw [if_pos rfl, if_pos rfl]
  rfl

theorem U_big : 1606938044258990275541962092341162602522202993782792835301376 ≤ U := by
  rw [U_def]
  have h : 2 ^ 200 ≤ 2 ^ e74 := pow_le_of (by rw [e74_eq]; omega)
  exact h

/-- a quotient's rung is finite -/
theorem quo_lt {q p b : Nat} (hb : 0 < b) (hp : p ≤ 9007199254740992) (h : Rnd q (p * U) b) : q < 9218868437227405312 := by
  obtain ⟨r, h1, h2⟩ := rep_rung p hp
  have := Rnd.mono hb (by omega) (by rw [Nat.mul_one, h1]; exact Nat.le_mul_of_pos_right _ hb) h (Rnd.exact (Nat.le_of_lt h2))
  omega

/-- what a rounded quotient is worth, from above and from below -/
theorem rnd_bounds {q A B : Nat} (h : Rnd q A B) (hq : q < 9218868437227405312) :
    (0 < q → (sv (q - 1) + sv q) * B ≤ 2 * A) ∧ 2 * A ≤ (sv q + sv (q + 1)) * B := by
  constructor
  · intro h0
    have h1 := (h.2 (q - 1) (by omega)).1 (by omega)
    unfold above at h1
    rw [show q - 1 + 1 = q from by omega] at h1
    omega
  · have h1 : ¬ above q A B := fun h' => by have := (h.2 q hq).2 h'; omega
    unfold above at h1
    omega

/-- quotients of small numbers that differ are rounded to different words -/
theorem quo_strict {q p b q' r d : Nat} (hb : 0 < b) (hd : 0 < d) (hpb : p < 2147483648) (hbb : b < 2147483648) (hdb : d < 2147483648) (hrb : r < 2147483648)
    (h : Rnd q (p * U) b) (h' : Rnd q' (r * U) d) (hlt : p * d < r * b) (hpd : p * d < 140737488355328) : q < q' := by
  rcases Nat.lt_or_ge q q' with hh | hh
  · exact hh
  · exfalso
    have f1 := quo_lt hb (by omega) h
    have f2 := quo_lt hd (by omega) h'
    have b2 := (rnd_bounds h' f2).2
    -- q' ≤ q: below the midpoint under q' there is room for p / b
    have hp0 : q' = 0 ∨ (sv (q' - 1) + sv q') * b ≤ 2 * (p * U) := by
      rcases Nat.eq_zero_or_pos q' with h0 | h0
      · exact .inl h0
      · right
        have h1 := (rnd_bounds h f1).1 (by omega)
        have h2 := sv_le (show q' - 1 ≤ q - 1 from by omega)
        have h3 := sv_le hh
        have : (sv (q' - 1) + sv q') * b ≤ (sv (q - 1) + sv q) * b := Nat.mul_le_mul_right _ (by omega)
        omega
    have hU := U_big
    obtain ⟨y, hy, _, gy⟩ := sv_gap q'
    -- all over b and d
    have e1 : 2 * (r * U) * b ≤ (sv q' + sv (q' + 1)) * d * b := Nat.mul_le_mul_right _ b2
    have hq0 : 0 < q' := by
      rcases Nat.eq_zero_or_pos q' with h0 | h0
      · exfalso
        subst h0
        have : sv (0 + 1) = 1 := sv_small (by omega)
        rw [this, sv_zero] at b2
        have hr0 : 0 < r := by
          rcases Nat.eq_zero_or_pos r with h | h
          · subst h; omega
          · exact h
        have : U ≤ r * U := Nat.le_mul_of_pos_left _ hr0
        omega
      · exact h0
    rcases hp0 with h0 | hp0
    · omega
    obtain ⟨x, hx, _, gx⟩ := sv_gap (q' - 1)
    rw [show q' - 1 + 1 = q' from by omega] at hx
    rw [hy] at e1
    have e2 : (sv q' + sv q' - x) * b * d ≤ 2 * (p * U) * d := Nat.mul_le_mul_right _ (by
      have : sv (q' - 1) + sv q' = sv q' + sv q' - x := by omega
      rw [← this]; exact hp0)
    have hxv : x ≤ sv q' := by omega
    have gx' : x * 4503599627370496 ≤ 4503599627370496 + sv q' := Nat.le_trans gx (Nat.add_le_add_left (by rw [hx]; exact Nat.le_add_right _ _) _)
    generalize sv q' = v at *
    clear b2 hp0 hx hy f1 f2 h h' hh
    -- 2 U (r b - p d) ≤ (x + y) b d
    have e3 : 2 * (r * U) * b ≤ 2 * (p * U) * d + (x + y) * (b * d) := by
      have h1 : (v + (v + y)) * d * b = (v + v - x) * b * d + (x + y) * (b * d) := by
        obtain ⟨z, hz⟩ : ∃ z, v + v = z + x := ⟨v + v - x, by omega⟩
        rw [show v + (v + y) = z + (x + y) from by omega, show v + v - x = z from by omega, Nat.add_mul, Nat.add_mul]
        congr 1 <;> ac_rfl
      omega
    have e4 : 2 * (r * U) * b = 2 * U * (r * b) := by ac_rfl
    have e5 : 2 * (p * U) * d = 2 * U * (p * d) := by ac_rfl
    rw [e4, e5] at e3
    have e6 : 2 * U * (p * d) + 2 * U ≤ 2 * U * (r * b) := by
      have := Nat.mul_le_mul_left (2 * U) hlt
      rw [Nat.mul_succ] at this; exact this
    have e7 : 2 * U ≤ (x + y) * (b * d) := by omega
    -- (x + y) 2 ^ 52 ≤ 2 ^ 53 + 2 v
    have e8 : (x + y) * 4503599627370496 ≤ 9007199254740992 + 2 * v := by
      rw [Nat.add_mul]
      refine Nat.le_trans (Nat.add_le_add gx' gy) (Nat.le_of_eq ?_)
      rw [Nat.two_mul]; clear e7 e6 e5 e4 e3 e2 e1 gx gx' gy; omega
    have e9 : 2 * U * 4503599627370496 ≤ (9007199254740992 + 2 * v) * (b * d) := by
      have h1 := Nat.mul_le_mul_right 4503599627370496 e7
      have h2 := Nat.mul_le_mul_right (b * d) e8
      rw [Nat.mul_right_comm] at h2
      exact Nat.le_trans h1 h2
    have e10 : v * (b * d) ≤ 2 * U * (p * d) := by
      have h1 : v * b * d ≤ (v + v - x) * b * d := Nat.mul_le_mul_right _ (Nat.mul_le_mul_right _ (by omega))
      rw [← Nat.mul_assoc]; omega
    have e11 : b * d ≤ 2147483648 * 2147483648 := Nat.mul_le_mul (by omega) (by omega)
    have e12 : (9007199254740992 + 2 * v) * (b * d) = 9007199254740992 * (b * d) + 2 * (v * (b * d)) := by rw [Nat.add_mul, Nat.mul_assoc]
    have e13 : 2 * U * (p * d) ≤ 2 * U * 140737488355328 := Nat.mul_le_mul_left _ (by omega)
    omega

theorem quo_same {q p b q' r d : Nat} (hb : 0 < b) (hd : 0 < d) (h : Rnd q (p * U) b) (h' : Rnd q' (r * U) d) (he : p * d = r * b) : q = q' :=
  Rnd.uniq hb hd (by rw [Nat.mul_right_comm, he, Nat.mul_right_comm]) h h'

end PF
set_option linter.unusedSimpArgs false
set_option linter.unusedVariables false
namespace PF
open Ieee Go

theorem compare_iff {a b c d : Int} (h1 : a < b ↔ c < d) (h2 : b < a ↔ d < c) : compare a b = compare c d := by
  simp only [compare, compareOfLessAndEq]
  have h3 : a = b ↔ c = d := by
    constructor
    · intro h
      have : ¬ c < d := fun h' => by have := h1.2 h'; omega
      have : ¬ d < c := fun h' => by have := h2.2 h'; omega
      omega
    · intro h
      have : ¬ a < b := fun h' => by have := h1.1 h'; omega
      have : ¬ b < a := fun h' => by have := h2.1 h'; omega
      omega
  simp only [h1, h3]

theorem Quo.neg {x : Nat} {a b : Int} (hb : b ≠ 0) (h : Quo x a b) : Quo x (-a) (-b) := by
  obtain ⟨s, q, h1, h2, h3⟩ := h
  refine ⟨s, q, h1, by rw [Int.natAbs_neg, Int.natAbs_neg]; exact h2, fun h0 => ?_⟩
  rw [h3 (by omega)]
  by_cases ha : a < 0 <;> by_cases hb' : b < 0 <;> simp [ha, hb'] <;> omega

theorem quo_pos {q p b : Nat} (hb : 0 < b) (hp0 : 0 < p) (hp : p < 2147483648) (hbb : b < 2147483648) (h : Rnd q (p * U) b) : 0 < q := by
  have h0 : Rnd 0 (0 * U) 1 := by
    have := Rnd.exact (r := 0) (by omega)
    rw [sv_zero] at this
    rw [Nat.zero_mul]; exact this
  exact quo_strict (by omega) hb (by omega) (by omega) hbb (by omega) h0 h (by omega) (by omega)

theorem quo_zero {q b : Nat} (hb : 0 < b) (h : Rnd q (0 * U) b) : q = 0 := by
  have h0 : Rnd 0 (0 * U) 1 := by
    have := Rnd.exact (r := 0) (by omega)
    rw [sv_zero] at this
    rw [Nat.zero_mul]; exact this
  exact Rnd.uniq hb (by omega) (by rw [Nat.zero_mul]; simp) h h0

/-- the sign and the size of a quotient's word -/
theorem Quo.val {x : Nat} {a : Int} {b : Nat} (hb : 0 < b) (ha : a.natAbs < 2147483648) (hbb : b < 2147483648) (h : Quo x a b) :
    Fin x ∧ ∃ q, Rnd q (a.natAbs * U) b ∧ (0 ≤ a → V x = sv q) ∧ (a < 0 → V x = -(sv q : Int) ∧ 0 < q) := by
  obtain ⟨s, q, h1, h2, h3⟩ := h
  rw [Int.natAbs_natCast] at h2
  have hq := quo_lt hb (by omega) h2
  subst h1
  refine ⟨word_fin hq, q, h2, fun h0 => ?_, fun h0 => ?_⟩
  · rw [word_V (Nat.le_of_lt hq)]
    by_cases hz : a = 0
    · subst hz
      have : q = 0 := quo_zero hb h2
      subst this
      rw [sv_zero]; unfold sgn; cases s <;> rfl
    · have : s = false := by
        rw [h3 hz]
        have e1 : ¬ a < 0 := by omega
        have e2 : ¬ (b : Int) < 0 := by omega
        simp [e1, e2]
      subst this; rfl
  · have : s = true := by
      rw [h3 (by omega)]
      have e2 : ¬ (b : Int) < 0 := by omega
      simp [h0, e2]
    subst this
    refine ⟨by rw [word_V (Nat.le_of_lt hq)]; rfl, quo_pos hb (by omega) ha hbb h2⟩

theorem quo_order_pos {w w' : Nat} {a c : Int} {b d : Nat} (h : Quo w a b) (h' : Quo w' c d) (hb : 0 < b) (hd : 0 < d)
    (ha : a.natAbs < 8388608) (hc : c.natAbs < 8388608) (hbb : b < 8388608) (hdb : d < 8388608) :
    double.order w w' = some (compare (a * d) (c * b)) := by
  obtain ⟨f1, q, r1, p1, n1⟩ := h.val hb (by omega) (by omega)
  obtain ⟨f2, q', r2, p2, n2⟩ := h'.val hd (by omega) (by omega)
  rw [order_fin f1 f2]
  congr 1
  have hb' : (0 : Int) < b := by omega
  have hd' : (0 : Int) < d := by omega
  have pd : a.natAbs * d < 140737488355328 := by
    have := Nat.mul_lt_mul'' ha hdb; omega
  have pb : c.natAbs * b < 140737488355328 := by
    have := Nat.mul_lt_mul'' hc hbb; omega
  have lt1 : a.natAbs * d < c.natAbs * b → q < q' := fun hl => quo_strict hb hd (by omega) (by omega) (by omega) (by omega) r1 r2 hl pd
  have lt2 : c.natAbs * b < a.natAbs * d → q' < q := fun hl => quo_strict hd hb (by omega) (by omega) (by omega) (by omega) r2 r1 hl pb
  have eq1 : a.natAbs * d = c.natAbs * b → q = q' := fun he => quo_same hb hd r1 r2 he
  have sm : ∀ {x y : Nat}, x < y → (sv x : Int) < sv y := fun h => by exact_mod_cast sv_lt h
  have na : ∀ (z : Int) (k : Nat), 0 ≤ z → z * k = ((z.natAbs * k : Nat) : Int) := fun z k hz => by
    rw [Int.natCast_mul, show ((z.natAbs : Nat) : Int) = z from by omega]
  have nn : ∀ (z : Int) (k : Nat), z < 0 → z * k = -((z.natAbs * k : Nat) : Int) := fun z k hz => by
    rw [Int.natCast_mul, show ((z.natAbs : Nat) : Int) = -z from by omega, Int.neg_mul, Int.neg_neg]
  have key : (q < q' ↔ a.natAbs * d < c.natAbs * b) ∧ (q' < q ↔ c.natAbs * b < a.natAbs * d) := by
    rcases Nat.lt_trichotomy (a.natAbs * d) (c.natAbs * b) with h1 | h1 | h1
    · have := lt1 h1; omega
    · have := eq1 h1; omega
    · have := lt2 h1; omega
  have key2 : ((sv q : Int) < sv q' ↔ a.natAbs * d < c.natAbs * b) ∧ ((sv q' : Int) < sv q ↔ c.natAbs * b < a.natAbs * d) := by
    rw [← key.1, ← key.2, Int.ofNat_lt, Int.ofNat_lt, sv_lt_iff, sv_lt_iff]
    exact ⟨Iff.rfl, Iff.rfl⟩
  have pos : ∀ x : Nat, 0 < x → (0 : Int) < sv x := fun x hx => by have := le_sv x; omega
  rcases Int.lt_or_le a 0 with h1 | h1 <;> rcases Int.lt_or_le c 0 with h2 | h2
  · rw [(n1 h1).1, (n2 h2).1, nn a d h1, nn c b h2]
    apply compare_iff <;> constructor <;> intro h <;> omega
  · rw [(n1 h1).1, p2 h2, nn a d h1, na c b h2]
    have := pos q (n1 h1).2
    have := Nat.mul_pos (show 0 < a.natAbs by omega) hd
    apply compare_iff <;> constructor <;> intro h <;> omega
  · rw [p1 h1, (n2 h2).1, na a d h1, nn c b h2]
    have := pos q' (n2 h2).2
    have := Nat.mul_pos (show 0 < c.natAbs by omega) hb
    apply compare_iff <;> constructor <;> intro h <;> omega
  · rw [p1 h1, p2 h2, na a d h1, na c b h2]
    apply compare_iff <;> constructor <;> intro h <;> omega

/-- for a walk: quotients by whatever is not nought, compared -/
theorem quo_order {w w' : Nat} {a b c d : Int} (h : Quo w a b) (h' : Quo w' c d) (hb : b ≠ 0) (hd : d ≠ 0)
    (ha : a.natAbs < 8388608) (hc : c.natAbs < 8388608) (hbb : b.natAbs < 8388608) (hdb : d.natAbs < 8388608) :
    double.order w w' = some (if 0 < b * d then compare (a * d) (c * b) else compare (c * b) (a * d)) := by
  have main : ∀ {w w' : Nat} {a b c d : Int}, Quo w a b → Quo w' c d → 0 < b → 0 < d → a.natAbs < 8388608 → c.natAbs < 8388608 → b.natAbs < 8388608 → d.natAbs < 8388608 → double.order w w' = some (compare (a * d) (c * b)) := by
    intro w w' a b c d h h' hb hd ha hc hbb hdb
    obtain ⟨b', rfl⟩ := Int.eq_ofNat_of_zero_le (Int.le_of_lt hb)
    obtain ⟨d', rfl⟩ := Int.eq_ofNat_of_zero_le (Int.le_of_lt hd)
    exact quo_order_pos h h' (by omega) (by omega) ha hc (by omega) (by omega)
  rcases Int.lt_or_gt_of_ne hb with h1 | h1 <;> rcases Int.lt_or_gt_of_ne hd with h2 | h2
  · rw [main (h.neg hb) (h'.neg hd) (by omega) (by omega) (by omega) (by omega) (by omega) (by omega), if_pos (Int.mul_pos_of_neg_of_neg h1 h2), Int.neg_mul_neg, Int.neg_mul_neg]
  · have hn := Int.mul_neg_of_neg_of_pos h1 h2
    rw [main (h.neg hb) h' (by omega) h2 (by omega) hc (by omega) hdb, if_neg (by omega), Int.neg_mul, Int.mul_neg]
    congr 1
    apply compare_iff <;> omega
  · have hn := Int.mul_neg_of_pos_of_neg h1 h2
    rw [main h (h'.neg hd) h1 (by omega) ha (by omega) hbb (by omega), if_neg (by omega), Int.neg_mul, Int.mul_neg]
    congr 1
    apply compare_iff <;> omega
  · rw [main h h' h1 h2 ha hc hbb hdb, if_pos (Int.mul_pos h1 h2)]
end PF
set_option linter.unusedSimpArgs false
set_option linter.unusedVariables false
namespace PF
open Ieee Go

/-! ### infinities, no numbers -/

theorem read_inf (s : Bool) : double.read (double.word s 9218868437227405312) = .infinity s := by
  rw [read_def, word_mod (by omega), word_sign (by omega), if_neg (by omega), if_neg (by omega), if_pos rfl]

theorem order_inf_left {s : Bool} {y : Nat} (hy : Fin y) : double.order (double.word s 9218868437227405312) y = some (if s then .lt else .gt) := by
  obtain ⟨n, j, ey, _⟩ := read_fin hy
  unfold Format.order
  rw [read_inf, ey]
  rfl

theorem order_inf_right {s : Bool} {x : Nat} (hx : Fin x) : double.order x (double.word s 9218868437227405312) = some (if s then .gt else .lt) := by
  obtain ⟨n, j, ex, _⟩ := read_fin hx
  unfold Format.order
  rw [read_inf, ex]
  rfl

/-- no number: compared with whatever, nothing comes of it -/
def Nan (x : Nat) : Prop := ∀ z, double.order x z = none ∧ double.order z x = none

theorem nan_of_read {x : Nat} {s : Bool} {f : Nat} (h : double.read x = .nan s f) : Nan x := by
  intro z
  unfold Format.order
  rw [h]
  constructor
  · rfl
  · cases double.read z <;> rfl

/-! ### what lies just above a whole number -/

/-- the word x stands for a little more than n -/
structure Nxt (x : Nat) (n : Int) : Prop where
  fin : Fin x
  lo : n * U < V x
  hi : (V x - n * U) * 1048576 ≤ U

theorem mulU {a b : Int} (h : a ≤ b) : a * (U : Int) ≤ b * U := Int.mul_le_mul_of_nonneg_right h (by omega)

theorem order_nxt {x y : Nat} {n b : Int} (hx : Nxt x n) (hy : Rep y b) : double.order x y = some (if n < b then .lt else .gt) := by
  rw [order_fin hx.fin hy.fin, hy.val]
  congr 1
  have h1 := hx.lo
  have h2 := hx.hi
  have hU : (0 : Int) < U := by have := U_pos; omega
  by_cases h : n < b
  · rw [if_pos h]
    have : V x < b * U := by
      have h3 := mulU (show n + 1 ≤ b from h)
      rw [Int.add_mul] at h3
      omega
    simp [compare, compareOfLessAndEq, this]
  · rw [if_neg h]
    have h3 := mulU (show b ≤ n by omega)
    have h4 : ¬ V x < b * U := by omega
    have h5 : ¬ V x = b * U := by omega
    simp [compare, compareOfLessAndEq, h4, h5]


/-- a little above nought, or nought -/
structure Tiny (x : Nat) : Prop where
  fin : Fin x
  lo : 0 ≤ V x
  hi : V x * 1048576 ≤ U

theorem rung_small : ∃ r, sv r * 1048576 = U ∧ r < 9218868437227405312 := by
  obtain ⟨r, h1, h2⟩ := rep (e74 - 20) 1 (by omega)
  refine ⟨r, ?_, by rw [e74_eq] at h2; omega⟩
  rw [h1, U_def, Nat.one_mul, show (1048576 : Nat) = 2 ^ 20 from rfl, ← Nat.pow_add]
  exact congrArg (2 ^ ·) (by rw [e74_eq])

theorem sub_nxt {x y : Nat} {n : Int} (hx : Nxt x n) (hy : Rep y n) : ∃ w, double.sub x y = some w ∧ Tiny w := by
  obtain ⟨m, i, ex, hi, _, vx⟩ := read_fin hx.fin
  obtain ⟨k, j, ey, hj, _, vy⟩ := read_fin hy.fin
  unfold Format.sub
  rw [ex, ey]
  unfold Datum.opposite
  dsimp only
  have hneg : ∀ (s : Bool) (k : Nat), sgn (!s) k = - sgn s k := fun s k => by cases s <;> simp [sgn]
  obtain ⟨q, r, h1, h2, h3, _⟩ := sum_fin (t := !(y / 9223372036854775808 % 2 == 1)) hi hj (a := V x) (b := (-n) * U) (by rw [vx]; rfl) (by rw [vy, hneg, Int.neg_mul, ← hy.val]; rfl)
  have hd : V x + -n * U = V x - n * U := by rw [Int.neg_mul]; omega
  rw [hd] at h2 h3
  have hl := hx.lo
  have hh := hx.hi
  have hq : q = false := by
    rw [h3 (by omega)]
    have : ¬ (V x - n * U < 0) := by omega
    simp [this]
  subst hq
  obtain ⟨r0, e1, e2⟩ := rung_small
  have hr : r ≤ r0 := Rnd.mono (by omega) (by omega) (by rw [Nat.mul_one, Nat.mul_one]; omega) h2 (Rnd.exact (Nat.le_of_lt e2))
  have hs := sv_le hr
  refine ⟨_, h1, word_fin (by omega), ?_, ?_⟩
  · rw [word_V (by omega)]; unfold sgn; simp
  · rw [word_V (by omega)]; unfold sgn; simp only [Bool.false_eq_true, if_false]; omega

/-- and its quotient by a whole number other than 0 -/
theorem div_tiny {x y : Nat} {b : Int} (hx : Tiny x) (hy : Rep y b) (hb : b ≠ 0) :
    ∃ w, double.div x y = some w ∧ Fin w ∧ (V w).natAbs * 1048576 ≤ U ∧ (0 < b → 0 ≤ V w) ∧ (b < 0 → V w ≤ 0) := by
  obtain ⟨m, i, ex, hi, hm, vx⟩ := read_fin hx.fin
  obtain ⟨n, j, ey, hj, hn, vy⟩ := read_fin hy.fin
  have eb := sgn_abs hy.val
  have hB : 0 < b.natAbs := by omega
  have hn0 : n ≠ 0 := by
    intro h; subst h
    rw [← vy, Nat.zero_mul] at eb
    have := Nat.mul_pos hB U_pos
    omega
  have hlo := hx.lo
  have hhi := hx.hi
  unfold Format.div
  rw [ex, ey, d_frac]
  by_cases hm0 : m = 0
  · subst hm0
    refine ⟨double.word ((x / 9223372036854775808 % 2 == 1) ^^ (y / 9223372036854775808 % 2 == 1)) 0, ?_, word_fin (by omega), ?_, ?_, ?_⟩
    · unfold Datum.quotient
      dsimp only
      rw [if_neg hn0, Option.map_some]
      unfold Format.write
      dsimp only
      rw [Nat.zero_shiftLeft, Nat.zero_div, Nat.zero_mod]
      unfold Format.nearest
      rw [if_pos (by simp)]
    all_goals (rw [word_V (by omega), sv_zero]; unfold sgn; simp)
  · obtain ⟨r, h1, h2⟩ := quotient_fin (s := x / 9223372036854775808 % 2 == 1) (t := y / 9223372036854775808 % 2 == 1) hi hj hm0 hn0 hm vx vy e74 e74_int
    rw [← U_def, eb] at h2
    have hsx : (x / 9223372036854775808 % 2 == 1) = false := by
      have h3 : 0 < m * 2 ^ (i + 1074).toNat := Nat.mul_pos (by omega) (Nat.two_pow_pos _)
      rw [vx] at h3
      unfold V sgn at hlo
      cases hc : (x / 9223372036854775808 % 2 == 1)
      · rfl
      · rw [hc] at hlo; simp at hlo; omega
    have hvx : V x = sv (x % 9223372036854775808) := by unfold V; rw [hsx]; rfl
    obtain ⟨r0, e1, e2⟩ := rung_small
    have hr : r ≤ r0 := by
      refine Rnd.mono (Nat.mul_pos hB U_pos) (by omega) ?_ h2 (Rnd.exact (Nat.le_of_lt e2))
      rw [Nat.mul_one, ← Nat.mul_assoc]
      refine Nat.mul_le_mul_right _ ?_
      have h5 : sv (x % 9223372036854775808) ≤ sv r0 := by omega
      exact Nat.le_trans h5 (Nat.le_mul_of_pos_right _ hB)
    have hs := sv_le hr
    have hsy := sgn_sign hy.val hb
    refine ⟨_, h1, word_fin (by omega), ?_, ?_, ?_⟩
    · rw [word_V (by omega), sgn_natAbs]; omega
    · intro hpos
      rw [word_V (by omega), hsx, hsy]
      have : ¬ b < 0 := by omega
      simp [this, sgn]
    · intro hneg
      rw [word_V (by omega), hsx, hsy]
      simp [hneg, sgn]

/-- what a quotient of small numbers is worth at least -/
theorem quo_large {q p b : Nat} (hb : 0 < b) (hp0 : 0 < p) (hbb : b < 65536) (h : Rnd q (p * U) b) : U ≤ sv q * 65536 := by
  obtain ⟨r, h1, h2⟩ := rep (e74 - 16) 1 (by omega)
  have e1 : sv r * 65536 = U := by
    rw [h1, U_def, Nat.one_mul, show (65536 : Nat) = 2 ^ 16 from rfl, ← Nat.pow_add]
    exact congrArg (2 ^ ·) (by rw [e74_eq])
  have e2 : r < 9218868437227405312 := by rw [e74_eq] at h2; omega
  have hr : r ≤ q := by
    refine Rnd.mono (by omega) hb ?_ (Rnd.exact (Nat.le_of_lt e2)) h
    rw [Nat.mul_one]
    have h5 : sv r * b ≤ sv r * 65536 := Nat.mul_le_mul_left _ (by omega)
    have h6 : U ≤ p * U := Nat.le_mul_of_pos_left _ hp0
    omega
  have := sv_le hr
  omega

theorem order_tiny {w w' : Nat} {c d : Int} (f : Fin w) (h : (V w).natAbs * 1048576 ≤ U) (h' : Quo w' c d) (hc : c ≠ 0) (hd : d ≠ 0)
    (hcb : c.natAbs < 65536) (hdb : d.natAbs < 65536) : double.order w w' = some (if 0 < c * d then .lt else .gt) := by
  have main : ∀ {c d : Int}, Quo w' c d → c ≠ 0 → 0 < d → c.natAbs < 65536 → d.natAbs < 65536 → double.order w w' = some (if 0 < c then .lt else .gt) := by
    intro c d h' hc hd hcb hdb
    obtain ⟨d', rfl⟩ := Int.eq_ofNat_of_zero_le (Int.le_of_lt hd)
    obtain ⟨f2, q, r2, p2, n2⟩ := h'.val (by omega) (by omega) (by omega)
    have hl := quo_large (by omega) (by omega) (by omega) r2
    have hU := U_pos
    rw [order_fin f f2]
    congr 1
    rcases Int.lt_or_gt_of_ne hc with h1 | h1
    · rw [if_neg (by omega), (n2 h1).1]
      have e1 : ¬ V w < -(sv q : Int) := by omega
      have e2 : ¬ V w = -(sv q : Int) := by omega
      simp [compare, compareOfLessAndEq, e1, e2]
    · rw [if_pos h1, p2 (Int.le_of_lt h1)]
      have e1 : V w < (sv q : Int) := by omega
      simp [compare, compareOfLessAndEq, e1]
  rcases Int.lt_or_gt_of_ne hd with h2 | h2
  · rw [main (h'.neg hd) (by omega) (by omega) (by omega) (by omega)]
    congr 1
    have : 0 < -c ↔ 0 < c * d := by
      constructor
      · intro h; exact Int.mul_pos_of_neg_of_neg (by omega) h2
      · intro h
        rcases Int.lt_or_gt_of_ne hc with h3 | h3
        · omega
        · have := Int.mul_neg_of_pos_of_neg h3 h2; omega
    simp only [this]
  · rw [main h' hc h2 hcb hdb]
    congr 1
    have : 0 < c ↔ 0 < c * d := by
      constructor
      · intro h; exact Int.mul_pos h h2
      · intro h
        rcases Int.lt_or_gt_of_ne hc with h3 | h3
        · have := Int.mul_neg_of_neg_of_pos h3 h2; omega
        · exact h3
    simp only [this]

/-! ### the words next to a whole number's -/

theorem nxt_pos {x : Nat} {n : Int} (h : Rep x n) (h0 : 0 < n) (hn : n ≤ 1048576) : Nxt (x + 1) n := by
  have hv : sgn (x / 9223372036854775808 % 2 == 1) (sv (x % 9223372036854775808)) = n * U := h.val
  have hs := sgn_sign hv (by omega)
  have ha := sgn_abs hv
  have f := h.fin
  have hx : x = x % 9223372036854775808 := by
    have h1 := fin_word f
    rw [hs, word_def] at h1
    have : ¬ n < 0 := by omega
    simpa [this] using h1
  obtain ⟨r0, e1, e2⟩ := rep_rung 1048577 (by omega)
  generalize hr : x % 9223372036854775808 = r at *
  have hU := U_big
  have hrr : r < r0 := by
    rw [← sv_lt_iff, e1, ha]
    exact Nat.mul_lt_mul_of_pos_right (by omega) U_pos
  obtain ⟨y, hy, hy0, gy⟩ := sv_gap r
  have hw : x + 1 = double.word false (r + 1) := by rw [word_def]; simp; omega
  rw [hw]
  have hV : V (double.word false (r + 1)) = sv (r + 1) := by rw [word_V (by omega)]; rfl
  have hnU : n * (U : Int) = ((sv r : Nat) : Int) := by
    rw [ha, Int.natCast_mul]; congr 1; omega
  have hle : sv r ≤ 1048576 * U := by rw [ha]; exact Nat.mul_le_mul_right _ (by omega)
  refine ⟨word_fin (by omega), ?_, ?_⟩
  · rw [hV, hnU]; omega
  · rw [hV, hnU, hy]
    clear hV hnU hw hrr e1 ha
    omega

theorem nxt_neg {x : Nat} {n : Int} (h : Rep x n) (h0 : n < 0) (hn : -1048576 ≤ n) : Nxt (x - 1) n := by
  have hv : sgn (x / 9223372036854775808 % 2 == 1) (sv (x % 9223372036854775808)) = n * U := h.val
  have hs := sgn_sign hv (by omega)
  have ha := sgn_abs hv
  have f := h.fin
  have hx : x = 9223372036854775808 + x % 9223372036854775808 := by
    have h1 := fin_word f
    rw [hs, word_def] at h1
    simpa [h0] using h1
  have f2 := f.2
  generalize hr : x % 9223372036854775808 = r at *
  have hU := U_big
  have hr0 : 0 < r := by
    rcases Nat.eq_zero_or_pos r with h1 | h1
    · subst h1
      rw [sv_zero] at ha
      have := Nat.mul_pos (show 0 < n.natAbs by omega) U_pos
      omega
    · exact h1
  obtain ⟨y, hy, hy0, gy⟩ := sv_gap (r - 1)
  rw [show r - 1 + 1 = r from by omega] at hy
  have hw : x - 1 = double.word true (r - 1) := by rw [word_def]; simp; omega
  rw [hw]
  have hV : V (double.word true (r - 1)) = -(sv (r - 1) : Int) := by rw [word_V (by omega)]; rfl
  have hnU : n * (U : Int) = -((sv r : Nat) : Int) := by
    rw [ha, Int.natCast_mul, ← Int.neg_mul]; congr 1; omega
  have hle : sv r ≤ 1048576 * U := by rw [ha]; exact Nat.mul_le_mul_right _ (by omega)
  refine ⟨word_fin (by omega), ?_, ?_⟩
  · rw [hV, hnU]; omega
  · rw [hV, hnU, hy]
    clear hV hnU hw ha
    omega

theorem nxt_zero : Nxt 1 0 := by
  have hw : 1 = double.word false 1 := by rw [word_def]; simp
  have hU := U_big
  rw [hw]
  have hV : V (double.word false 1) = 1 := by rw [word_V (by omega), sv_small (by omega)]; rfl
  refine ⟨word_fin (by omega), ?_, ?_⟩ <;> rw [hV] <;> omega

/-! ### a reciprocal, and its product with a whole number -/

/-- the word x is n times the rounded reciprocal of m, rounded -/
def Rcp (x : Nat) (n m : Int) : Prop := ∃ s r q, x = double.word s r ∧ Rnd q (1 * U) m.natAbs ∧ Rnd r (n.natAbs * sv q) 1 ∧ (n ≠ 0 → s = (decide (n < 0) ^^ decide (m < 0)))

theorem mul_rcp {x y : Nat} {n m : Int} (hx : Rep x n) (hy : Quo y 1 m) (hm : m ≠ 0) : ∃ w, double.mul x y = some w ∧ Rcp w n m := by
  obtain ⟨t, q, h1, h2, h3⟩ := hy
  have hq := quo_lt (by omega) (by omega) h2
  have fy : Fin y := by rw [h1]; exact word_fin hq
  obtain ⟨k, i, ex, hi, _, vx⟩ := read_fin hx.fin
  obtain ⟨l, j, ey, hj, _, vy⟩ := read_fin fy
  unfold Format.mul
  rw [ex, ey]
  obtain ⟨r, e1, e2⟩ := product_fin (s := x / 9223372036854775808 % 2 == 1) (t := y / 9223372036854775808 % 2 == 1) hi hj vx vy e74 e74_int
  have ea := sgn_abs hx.val
  have esv : sv (y % 9223372036854775808) = sv q := by rw [h1, word_mod (Nat.le_of_lt hq)]
  rw [ea, esv, ← U_def] at e2
  refine ⟨_, e1, _, r, q, rfl, h2, Rnd.same U_pos (by omega) (by ac_rfl) e2, fun h0 => ?_⟩
  have hsy : (y / 9223372036854775808 % 2 == 1) = t := by rw [h1, word_sign (Nat.le_of_lt hq)]
  rw [sgn_sign hx.val h0, hsy, h3 (by omega)]
  simp

end PF
set_option linter.unusedSimpArgs false
set_option linter.unusedVariables false
namespace PF
open Ieee Go

theorem quo_large32 {q b : Nat} (hb : 0 < b) (hbb : b < 4294967296) (h : Rnd q (1 * U) b) : U ≤ sv q * 4294967296 := by
  obtain ⟨r, h1, h2⟩ := rep (e74 - 32) 1 (by omega)
  have e1 : sv r * 4294967296 = U := by
    rw [h1, U_def, Nat.one_mul, show (4294967296 : Nat) = 2 ^ 32 from rfl, ← Nat.pow_add]
    exact congrArg (2 ^ ·) (by rw [e74_eq])
  have e2 : r < 9218868437227405312 := by rw [e74_eq] at h2; omega
  have hr : r ≤ q := by
    refine Rnd.mono (by omega) hb ?_ (Rnd.exact (Nat.le_of_lt e2)) h
    rw [Nat.mul_one, Nat.one_mul]
    have h5 : sv r * b ≤ sv r * 4294967296 := Nat.mul_le_mul_left _ (by omega)
    omega
  have := sv_le hr
  omega

/-- the rung of 1, and the next -/
theorem rung_one : ∃ r g, sv r = U ∧ sv (r + 1) = U + g ∧ U = 4503599627370496 * g ∧ 0 < g ∧ r < 9218868437227405312 := by
  refine ⟨(e74 - 52) * 4503599627370496 + 4503599627370496, 2 ^ (e74 - 52), ?_, ?_, ?_, Nat.two_pow_pos _, by rw [e74_eq]; omega⟩
  · rw [sv_at (by omega) (fun _ => by omega), U_def, show (4503599627370496 : Nat) = 2 ^ 52 from rfl, ← Nat.pow_add]
    exact congrArg (2 ^ ·) (by rw [e74_eq])
  · rw [Nat.add_assoc, sv_at (by omega) (fun _ => by omega), U_def, Nat.add_mul, Nat.one_mul]
    congr 1
    rw [show (4503599627370496 : Nat) = 2 ^ 52 from rfl, ← Nat.pow_add]
    exact congrArg (2 ^ ·) (by rw [e74_eq])
  · rw [U_def, show (4503599627370496 : Nat) = 2 ^ 52 from rfl, ← Nat.pow_add]
    exact congrArg (2 ^ ·) (by rw [e74_eq])

/-- the gap below a rung that is not among the least -/
theorem sv_gap_below {q : Nat} (h : 4503599627370496 < q) : ∃ x, sv q = sv (q - 1) + x ∧ 0 < x ∧ x * 4503599627370497 ≤ sv q := by
  have m0 := sv_lt (show q - 1 < q from by omega)
  obtain ⟨e, f, hf, rfl⟩ := split_rung q (by omega)
  rcases Nat.eq_zero_or_pos f with h0 | h0
  · subst h0
    obtain ⟨d, rfl⟩ : ∃ d, e = d + 1 := ⟨e - 1, by omega⟩
    have e1 : (d + 1 + 1) * 4503599627370496 + 0 - 1 = (d + 1) * 4503599627370496 + 4503599627370495 := by omega
    rw [e1, sv_split _ _ (by omega), sv_split _ _ (by omega), Nat.pow_succ]
    refine ⟨2 ^ d, ?_, Nat.two_pow_pos d, ?_⟩ <;> omega
  · have e1 : (e + 1) * 4503599627370496 + f - 1 = (e + 1) * 4503599627370496 + (f - 1) := by omega
    rw [e1, sv_split _ _ (by omega), sv_split _ _ (by omega)]
    refine ⟨2 ^ e, ?_, Nat.two_pow_pos e, ?_⟩
    · obtain ⟨g, rfl⟩ : ∃ g, f = g + 1 := ⟨f - 1, by omega⟩
      rw [Nat.add_sub_cancel, ← Nat.add_assoc, Nat.add_mul (4503599627370496 + g) 1, Nat.one_mul]
    · rw [Nat.mul_comm]
      exact Nat.mul_le_mul_right _ (by omega)

theorem rcp_fin {q m n r : Nat} (hm : 0 < m) (hnb : n < 2147483648) (h2 : Rnd q (1 * U) m) (h3 : Rnd r (n * sv q) 1) : r < 9218868437227405312 := by
  have hql := quo_lt hm (by omega) h2
  obtain ⟨r1, g, o1, _, _, _, o5⟩ := rung_one
  have hq1 : q ≤ r1 := Rnd.mono hm (by omega) (by rw [Nat.one_mul, Nat.mul_one, o1]; exact Nat.le_mul_of_pos_right _ hm) h2 (Rnd.exact (Nat.le_of_lt o5))
  obtain ⟨r2, t1, t2⟩ := rep_rung n (by omega)
  have : r ≤ r2 := Rnd.mono (by omega) (by omega) (by
    rw [Nat.mul_one, Nat.mul_one, t1, ← o1]
    exact Nat.mul_le_mul_left _ (sv_le hq1)) h3 (Rnd.exact (Nat.le_of_lt t2))
  omega

theorem rcp_one {q m n r r1 : Nat} (hm : 0 < m) (hmb : m < 2147483648) (h2 : Rnd q (1 * U) m) (h3 : Rnd r (n * sv q) 1) (h1 : sv r1 = U) : r ≤ r1 ↔ n ≤ m := by
  have hql := quo_lt hm (by omega) h2
  have hlarge := quo_large32 hm (by omega) h2
  obtain ⟨r1', g, o1, o2, o3, o4, o5⟩ := rung_one
  have : r1 = r1' := sv_inj (h1.trans o1.symm)
  subst this
  have hU := U_big
  have hq0 : 4503599627370496 < q := by
    rcases Nat.lt_or_ge 4503599627370496 q with h | h
    · exact h
    · exfalso
      have h4 := sv_le h
      have h5 : sv 4503599627370496 = 4503599627370496 * 2 ^ 0 := by
        have := sv_at (L := 0) (k := 4503599627370496) (by omega) (by omega)
        rw [Nat.zero_mul, Nat.zero_add] at this; exact this
      rw [h5] at h4
      omega
  obtain ⟨x, x1, x2, x3⟩ := sv_gap_below hq0
  obtain ⟨y, y1, y2, y3⟩ := sv_gap q
  have b1 := (rnd_bounds h2 hql).1 (by omega)
  have b2 := (rnd_bounds h2 hql).2
  rw [Nat.one_mul] at b1 b2
  have a3 := h3.2 r1 o5
  unfold above at a3
  rw [o1, o2, Nat.mul_one] at a3
  generalize sv q = v at *
  have c1 : (v + v) * m ≤ 2 * U + x * m := by
    have : v + v = sv (q - 1) + v + x := by omega
    rw [this, Nat.add_mul _ x]; omega
  have c2 : 2 * U ≤ (v + v) * m + y * m := by
    rw [y1, ← Nat.add_assoc, Nat.add_mul _ y] at b2; omega
  have c3 : (v + v) * m = 2 * (m * v) := by rw [Nat.add_mul, Nat.mul_comm v m]; omega
  rw [c3] at c1 c2
  constructor
  · intro h
    rcases Nat.lt_or_ge m n with hlt | hge
    · exfalso
      have d1 : m * v + v ≤ n * v := by
        have := Nat.mul_le_mul_right v hlt
        rw [Nat.succ_mul] at this; exact this
      -- y m is small
      have d2 : y * m * 4503599627370496 ≤ 4503599627370496 * m + v * m := by
        have := Nat.mul_le_mul_right m y3
        rw [Nat.mul_right_comm, Nat.add_mul] at this; exact this
      have d3 : v * m ≤ v * 2147483648 := Nat.mul_le_mul_left _ (by omega)
      have d4 : U + (U + g) < 2 * (n * v) := by
        have d2' : y * m * 4503599627370496 ≤ 4503599627370496 * m + v * 2147483648 := Nat.le_trans d2 (Nat.add_le_add_left d3 _)
        generalize n * v = nv at *
        generalize m * v = mv at *
        generalize y * m = ym at *
        clear a3 b1 b2 c1 c3 x1 x3 y1 y3 h1 o1 o2 h2 h3 d2 d3
        have s2 : g * 1048576 ≤ v := by clear d2' d1 c2 hU; omega
        have s3 : ym * 2097152 ≤ 2097152 * m + v := by
          have k1 : ym * 2097152 * 2147483648 ≤ (2097152 * m + v) * 2147483648 := by
            rw [Nat.mul_assoc, Nat.add_mul, Nat.mul_right_comm]; exact d2'
          exact Nat.le_of_mul_le_mul_right k1 (by omega)
        have s4 : 1152921504606846976 ≤ v := by clear d1 c2 d2' o3 s2 s3; omega
        have s5 : 2 * (mv + v) ≤ 2 * nv := by clear s2 s3 s4 c2 d2' hU hlarge o3; omega
        clear d2' hU hlarge o3 d1
        omega
      exact absurd (a3.2 (.inl d4)) (Nat.not_lt.2 h)
    · exact hge
  · intro h
    rcases Nat.lt_or_ge r1 r with hlt | hge
    · exfalso
      have e1 : n * v ≤ m * v := Nat.mul_le_mul_right v h
      have e2 : x * m * 4503599627370497 ≤ m * v := by
        have := Nat.mul_le_mul_right m x3
        rw [Nat.mul_right_comm, Nat.mul_comm v m] at this; exact this
      have e3 : 0 < x * m := Nat.mul_pos x2 hm
      have e4 : U + (U + g) ≤ 2 * (n * v) := by
        rcases a3.1 hlt with e4 | e4
        · exact Nat.le_of_lt e4
        · exact Nat.le_of_eq e4.1
      clear a3 b1 b2 c3 x1 x3 y1 y3 h1 o1 o2 h2 h3 c2 hU hlarge hlt h hq0 hql x2 y2 o5
      generalize n * v = nv at *
      generalize m * v = mv at *
      generalize x * m = xm at *
      omega
    · exact hge
end PF
set_option linter.unusedSimpArgs false
set_option linter.unusedVariables false
namespace PF
open Ieee Go

/-- the sign and the rung of a product with a reciprocal -/
theorem Rcp.val {x : Nat} {n m : Int} (h : Rcp x n m) (hm : m ≠ 0) (hmb : m.natAbs < 2147483648) (hnb : n.natAbs < 2147483648) :
    Fin x ∧ ∃ r q, Rnd q (1 * U) m.natAbs ∧ Rnd r (n.natAbs * sv q) 1 ∧ (n = 0 → V x = 0) ∧ (0 < n * m → V x = sv r ∧ 0 < sv r) ∧ (n * m < 0 → V x < 0) := by
  obtain ⟨s, r, q, h1, h2, h3, h4⟩ := h
  have hq := quo_pos (by omega) (by omega) (by omega) hmb h2
  have hr := rcp_fin (by omega) hnb h2 h3
  have hqs := le_sv q
  have hV : V x = sgn s (sv r) := by rw [h1, word_V (Nat.le_of_lt hr)]
  refine ⟨by rw [h1]; exact word_fin hr, r, q, h2, h3, ?_, ?_, ?_⟩
  · intro h0
    subst h0
    have : r = 0 := by
      have e0 := Rnd.exact (r := 0) (by omega)
      rw [sv_zero] at e0
      rw [Int.natAbs_zero, Nat.zero_mul] at h3
      exact Rnd.uniq (by omega) (by omega) rfl h3 e0
    subst this
    rw [hV, sv_zero]
    cases s <;> rfl
  all_goals
    intro hp
    have h0 : n ≠ 0 := fun h => by rw [h, Int.zero_mul] at hp; omega
    have hr1 : 1 ≤ r := by
      have e1 := Rnd.exact (r := 1) (by omega)
      rw [sv_small (by omega)] at e1
      refine Rnd.mono (by omega) (by omega) ?_ e1 h3
      have : 1 * 1 ≤ n.natAbs * sv q := Nat.mul_le_mul (by omega) (by omega)
      omega
    have hrs := le_sv r
    rw [h4 h0] at hV
    rw [hV]
  · have hs : (decide (n < 0) ^^ decide (m < 0)) = false := by
      rcases Int.lt_or_gt_of_ne h0 with p1 | p1 <;> rcases Int.lt_or_gt_of_ne hm with p2 | p2
      · simp [p1, p2]
      · have := Int.mul_neg_of_neg_of_pos p1 p2; omega
      · have := Int.mul_neg_of_pos_of_neg p1 p2; omega
      · have e2 : ¬ n < 0 := by omega
        have e3 : ¬ m < 0 := by omega
        simp [e2, e3]
    rw [hs]
    exact ⟨rfl, by omega⟩
  · have hs : (decide (n < 0) ^^ decide (m < 0)) = true := by
      rcases Int.lt_or_gt_of_ne h0 with p1 | p1 <;> rcases Int.lt_or_gt_of_ne hm with p2 | p2
      · have := Int.mul_pos_of_neg_of_neg p1 p2; omega
      · have e3 : ¬ m < 0 := by omega
        simp [p1, e3]
      · have e2 : ¬ n < 0 := by omega
        simp [e2, p2]
      · have := Int.mul_pos p1 p2; omega
    rw [hs]
    show -(sv r : Int) < 0
    omega

theorem cmp_ge {a b : Int} : (some (compare a b) = some Ordering.gt ∨ some (compare a b) = some Ordering.eq) ↔ b ≤ a := by
  simp only [compare, compareOfLessAndEq]
  by_cases h1 : a < b
  · simp [h1]
  · by_cases h2 : a = b
    · simp [h2]
    · simp [h1, h2]; omega

theorem cmp_le {a b : Int} : (some (compare a b) = some Ordering.lt ∨ some (compare a b) = some Ordering.eq) ↔ a ≤ b := by
  simp only [compare, compareOfLessAndEq]
  by_cases h1 : a < b
  · simp [h1]; omega
  · by_cases h2 : a = b
    · simp [h2]
    · simp [h1, h2]; omega

theorem cmp_lt {a b : Int} : some (compare a b) = some Ordering.lt ↔ a < b := by
  simp only [compare, compareOfLessAndEq]
  by_cases h1 : a < b
  · simp [h1]
  · by_cases h2 : a = b
    · simp [h2]
    · simp [h1, h2]

theorem cmp_gt {a b : Int} : some (compare a b) = some Ordering.gt ↔ b < a := by
  simp only [compare, compareOfLessAndEq]
  by_cases h1 : a < b
  · simp [h1]; omega
  · by_cases h2 : a = b
    · simp [h2]
    · simp [h1, h2]; omega

theorem cmp_eq {a b : Int} : some (compare a b) = some Ordering.eq ↔ a = b := by
  simp only [compare, compareOfLessAndEq]
  by_cases h1 : a < b
  · simp [h1]; omega
  · by_cases h2 : a = b
    · simp [h2]
    · simp [h1, h2]

/-- against nought -/
theorem Rcp.ge_zero {x z : Nat} {n m : Int} (h : Rcp x n m) (hz : Rep z 0) (hm : m ≠ 0) (hmb : m.natAbs < 2147483648) (hnb : n.natAbs < 2147483648) :
    (double.order x z = some .gt ∨ double.order x z = some .eq) ↔ 0 ≤ n * m := by
  obtain ⟨f, r, q, _, _, c1, c2, c3⟩ := h.val hm hmb hnb
  rw [order_fin f hz.fin, cmp_ge, hz.val, Int.zero_mul]
  by_cases h0 : n = 0
  · rw [c1 h0, h0]; simp
  · rcases Int.lt_or_gt_of_ne (Int.mul_ne_zero h0 hm) with p | p
    · have := c3 p; omega
    · have := c2 p; omega

/-- against one -/
theorem Rcp.le_one {x z : Nat} {n m : Int} (h : Rcp x n m) (hz : Rep z 1) (hm : m ≠ 0) (hmb : m.natAbs < 2147483648) (hnb : n.natAbs < 2147483648) :
    (double.order x z = some .lt ∨ double.order x z = some .eq) ↔ n * m ≤ m * m := by
  obtain ⟨f, r, q, a1, a2, c1, c2, c3⟩ := h.val hm hmb hnb
  have hU := U_pos
  have hmm : 0 < m * m := by
    rcases Int.lt_or_gt_of_ne hm with p | p
    · exact Int.mul_pos_of_neg_of_neg p p
    · exact Int.mul_pos p p
  rw [order_fin f hz.fin, cmp_le, hz.val, Int.one_mul]
  by_cases h0 : n = 0
  · rw [c1 h0, h0, Int.zero_mul]; omega
  · rcases Int.lt_or_gt_of_ne (Int.mul_ne_zero h0 hm) with p | p
    · have := c3 p; omega
    · obtain ⟨e1, e2⟩ := c2 p
      rw [e1]
      obtain ⟨r1, g, o1, _, _, _, o5⟩ := rung_one
      have h1 := rcp_one (by omega) hmb a1 a2 o1
      have h2 : (sv r : Int) ≤ U ↔ r ≤ r1 := by
        rw [← o1]
        constructor
        · intro h
          rcases Nat.lt_or_ge r1 r with h' | h'
          · have := sv_lt h'; omega
          · exact h'
        · intro h; exact_mod_cast sv_le h
      rw [h2, h1]
      have e3 : n * m = ((n.natAbs * m.natAbs : Nat) : Int) := by
        rw [← Int.natAbs_mul]; omega
      have e4 : m * m = ((m.natAbs * m.natAbs : Nat) : Int) := by
        rw [← Int.natAbs_mul]; omega
      rw [e3, e4, Int.ofNat_le]
      exact ⟨fun h => Nat.mul_le_mul_right _ h, fun h => Nat.le_of_mul_le_mul_right h (by omega)⟩

/-! ### halves -/

/-- the word x stands for n / 2 -/
structure Half (x : Nat) (n : Int) : Prop where
  fin : Fin x
  val : 2 * V x = n * U
  sg : n ≠ 0 → (x / 9223372036854775808 % 2 == 1) = decide (n < 0)

theorem half_rep {x y : Nat} {n : Int} (hx : Rep x n) (hy : Rep y 2) (hn : n.natAbs < 1073741824) : ∃ w, double.div x y = some w ∧ Half w n := by
  obtain ⟨w, h1, s, q, h2, h3, h4⟩ := div_rep hx hy (by omega)
  have hq := quo_lt (by omega) (by omega) h3
  obtain ⟨r, t1, t2⟩ := rep (e74 - 1) n.natAbs (by omega)
  have e1 : sv r * 2 = n.natAbs * U := by
    rw [t1, U_def, Nat.mul_assoc, ← Nat.pow_succ]
    exact congrArg (n.natAbs * 2 ^ ·) (by rw [e74_eq])
  have hqr : q = r := Rnd.uniq (by omega) (by omega) (by rw [Nat.mul_one]; exact e1.symm) h3 (Rnd.exact (by rw [e74_eq] at t2; omega))
  subst hqr
  refine ⟨w, h1, by rw [h2]; exact word_fin hq, ?_, ?_⟩
  · rw [h2, word_V (Nat.le_of_lt hq)]
    by_cases h0 : n = 0
    · subst h0
      have : sv q = 0 := by rw [Int.natAbs_zero, Nat.zero_mul] at e1; omega
      rw [this]; cases s <;> simp [sgn]
    · rw [h4 h0]
      rcases Int.lt_or_gt_of_ne h0 with p | p
      · have e3 : n * (U : Int) = -((n.natAbs * U : Nat) : Int) := by
          rw [Int.natCast_mul, show ((n.natAbs : Nat) : Int) = -n from by omega, Int.neg_mul, Int.neg_neg]
        rw [e3, ← e1]
        have : ¬ (2 : Int) < 0 := by omega
        simp [p, sgn]
        omega
      · have e3 : n * (U : Int) = ((n.natAbs * U : Nat) : Int) := by
          rw [Int.natCast_mul, show ((n.natAbs : Nat) : Int) = n from by omega]
        rw [e3, ← e1]
        have : ¬ n < 0 := by omega
        simp [this, sgn]
        omega
  · intro h0
    rw [h2, word_sign (Nat.le_of_lt hq), h4 h0]
    simp

theorem twice_half {x y : Nat} {n : Int} (hx : Rep x 2) (hy : Half y n) (hn : n.natAbs < 1073741824) : ∃ w, double.mul x y = some w ∧ Rep w n := by
  obtain ⟨k, i, ex, hi, _, vx⟩ := read_fin hx.fin
  obtain ⟨l, j, ey, hj, _, vy⟩ := read_fin hy.fin
  unfold Format.mul
  rw [ex, ey]
  obtain ⟨r, e1, e2⟩ := product_fin (s := x / 9223372036854775808 % 2 == 1) (t := y / 9223372036854775808 % 2 == 1) hi hj vx vy e74 e74_int
  have ea := sgn_abs hx.val
  have eb : 2 * sv (y % 9223372036854775808) = n.natAbs * U := by
    have h1 := congrArg Int.natAbs hy.val
    rw [Int.natAbs_mul, Int.natAbs_mul] at h1
    unfold V at h1
    rw [sgn_natAbs] at h1
    exact h1
  rw [ea, ← U_def] at e2
  refine ⟨_, e1, (Rep.of_rnd U_pos e2 ?_ (by omega) fun h0 => ?_).1⟩
  · show 2 * U * sv (y % 9223372036854775808) = n.natAbs * U * U
    rw [← eb]; ac_rfl
  · rw [sgn_sign hx.val (by omega), hy.sg h0]
    have : ¬ (2 : Int) < 0 := by omega
    simp
end PF
