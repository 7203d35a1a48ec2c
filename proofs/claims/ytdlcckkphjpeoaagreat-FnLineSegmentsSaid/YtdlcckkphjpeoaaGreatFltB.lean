import Derived.Test.YtdlcckkphjpeoaaGreatFltA
import Derived.Laws.FloatArith
set_option linter.unusedSimpArgs false
set_option linter.unusedVariables false
namespace PF
open Ieee

theorem read_def (w : Nat) : double.read w =
    (if w % 9223372036854775808 < 4503599627370496 then .number (w / 9223372036854775808 % 2 == 1) (w % 9223372036854775808) (-1074)
     else if w % 9223372036854775808 < 9218868437227405312 then
      .number (w / 9223372036854775808 % 2 == 1) (4503599627370496 + w % 9223372036854775808 % 4503599627370496) (-1074 + (w % 9223372036854775808 / 4503599627370496 - 1 : Nat))
     else if w % 9223372036854775808 = 9218868437227405312 then .infinity (w / 9223372036854775808 % 2 == 1)
     else .nan (w / 9223372036854775808 % 2 == 1) (w % 9223372036854775808 - 9218868437227405312)) := by
  unfold Format.read
  rw [d_sign, d_binade, d_inf, d_least]

/-- a finite word -/
def Fin (w : Nat) : Prop := w < 18446744073709551616 ∧ w % 9223372036854775808 < 9218868437227405312

def sgn (s : Bool) (m : Nat) : Int := if s then -(m : Int) else m

/-- what a finite word stands for, times 2 ^ 1074 -/
def V (w : Nat) : Int := sgn (w / 9223372036854775808 % 2 == 1) (sv (w % 9223372036854775808))

theorem read_fin {w : Nat} (h : Fin w) : ∃ m i, double.read w = .number (w / 9223372036854775808 % 2 == 1) m i ∧ -1074 ≤ i ∧ m < 9007199254740992 ∧ m * 2 ^ (i + 1074).toNat = sv (w % 9223372036854775808) := by
  rw [read_def]
  have h2 := h.2
  generalize w % 9223372036854775808 = r at *
  by_cases h1 : r < 4503599627370496
  · rw [if_pos h1]
    refine ⟨_, _, rfl, by omega, by omega, ?_⟩
    rw [sv_small h1, show ((-1074 : Int) + 1074).toNat = 0 from rfl, Nat.pow_zero, Nat.mul_one]
  · rw [if_neg h1, if_pos h2]
    refine ⟨_, _, rfl, by omega, by omega, ?_⟩
    rw [sv_def, if_neg h1]
    congr 2
    omega

theorem signed_eq (s : Bool) (m u : Nat) : signed s m u = sgn s (m * 2 ^ u) := by
  unfold signed sgn
  rw [Nat.shiftLeft_eq]

theorem sgn_mul (s : Bool) (m k : Nat) : sgn s (m * k) = sgn s m * (k : Int) := by
  unfold sgn
  cases s <;> simp [Int.neg_mul]

theorem sgn_natAbs (s : Bool) (m : Nat) : (sgn s m).natAbs = m := by
  unfold sgn; cases s <;> simp

theorem compare_mul (a b : Int) (k : Nat) (hk : 0 < k) : compare (a * k) (b * k) = compare a b := by
  have hk' : (0 : Int) < k := by omega
  simp only [compare, compareOfLessAndEq]
  have h1 : a * k < b * k ↔ a < b := Int.mul_lt_mul_right hk'
  have h2 : a * k = b * k ↔ a = b := ⟨fun h => Int.eq_of_mul_eq_mul_right (by omega) h, fun h => by rw [h]⟩
  simp only [h1, h2]

theorem shift_V {m : Nat} {i base : Int} {s : Bool} (hi : -1074 ≤ base) (hb : base ≤ i) :
    sgn s (m * 2 ^ (i + 1074).toNat) = signed s m (i - base).toNat * ((2 ^ (base + 1074).toNat : Nat) : Int) := by
  rw [signed_eq, ← sgn_mul, Nat.mul_assoc, ← Nat.pow_add]
  congr 3
  omega

theorem order_fin {x y : Nat} (hx : Fin x) (hy : Fin y) : double.order x y = some (compare (V x) (V y)) := by
  obtain ⟨m, i, ex, hi, _, vx⟩ := read_fin hx
  obtain ⟨n, j, ey, hj, _, vy⟩ := read_fin hy
  unfold Format.order
  rw [ex, ey]
  unfold Datum.order
  dsimp only
  congr 1
  unfold V
  rw [← vx, ← vy, shift_V (base := min i j) (by omega) (by omega), shift_V (base := min i j) (i := j) (by omega) (by omega), compare_mul _ _ _ (Nat.two_pow_pos _)]

theorem word_def (s : Bool) (r : Nat) : double.word s r = if s then 9223372036854775808 + r else r := by
  unfold Format.word
  rw [d_sign]

theorem word_mod {s : Bool} {r : Nat} (h : r ≤ 9218868437227405312) : double.word s r % 9223372036854775808 = r := by
  rw [word_def]
  cases s
  · rw [if_neg (by simp)]; omega
  · rw [if_pos rfl]; omega

theorem word_sign {s : Bool} {r : Nat} (h : r ≤ 9218868437227405312) : (double.word s r / 9223372036854775808 % 2 == 1) = s := by
  rw [word_def]
  cases s
  · rw [if_neg (by simp)]
    have : r / 9223372036854775808 % 2 = 0 := by omega
    rw [this]; rfl
  · rw [if_pos rfl]
    have : (9223372036854775808 + r) / 9223372036854775808 % 2 = 1 := by omega
    rw [this]; rfl

theorem word_lt {s : Bool} {r : Nat} (h : r ≤ 9218868437227405312) : double.word s r < 18446744073709551616 := by
  rw [word_def]
  split <;> omega

theorem word_fin {s : Bool} {r : Nat} (h : r < 9218868437227405312) : Fin (double.word s r) :=
  ⟨word_lt (by omega), by rw [word_mod (by omega)]; exact h⟩

theorem word_V {s : Bool} {r : Nat} (h : r ≤ 9218868437227405312) : V (double.word s r) = sgn s (sv r) := by
  unfold V; rw [word_mod h, word_sign h]

theorem fin_word {w : Nat} (h : Fin w) : w = double.word (w / 9223372036854775808 % 2 == 1) (w % 9223372036854775808) := by
  rw [word_def]
  have h1 := h.1
  by_cases hs : w / 9223372036854775808 % 2 = 1
  · rw [if_pos (by simp [hs])]; omega
  · rw [if_neg (by simp [hs])]; omega

/-- a finite number in its place, and what it is times 2 ^ 1074 -/
theorem sum_fin {s t : Bool} {m n : Nat} {i j : Int} (hi : -1074 ≤ i) (hj : -1074 ≤ j) {a b : Int}
    (ha : sgn s (m * 2 ^ (i + 1074).toNat) = a) (hb : sgn t (n * 2 ^ (j + 1074).toNat) = b) :
    ∃ q r, ((Datum.number s m i).sum (.number t n j)).map double.write = some (double.word q r) ∧ Rnd r (a + b).natAbs 1 ∧
      (a + b ≠ 0 → q = decide (a + b < 0)) ∧ (a + b = 0 → q = (s && t) ∧ r = 0) := by
  unfold Datum.sum
  dsimp only
  rw [shift_V (base := min i j) (by omega) (by omega)] at ha hb
  have he : a + b = (signed s m (i - min i j).toNat + signed t n (j - min i j).toNat) * ((2 ^ (min i j + 1074).toNat : Nat) : Int) := by
    rw [Int.add_mul, ha, hb]
  have hp : 0 < 2 ^ (min i j + 1074).toNat := Nat.two_pow_pos _
  generalize signed s m (i - min i j).toNat + signed t n (j - min i j).toNat = T at *
  rw [Option.map_some]
  unfold Format.write
  dsimp only
  by_cases h0 : T = 0
  · subst h0
    rw [if_pos rfl]
    have hab : a + b = 0 := by rw [he]; simp
    refine ⟨(s && t), 0, ?_, ?_, fun h => absurd hab h, fun _ => ⟨rfl, rfl⟩⟩
    · unfold Format.nearest; rw [if_pos Int.natAbs_zero]
    · rw [hab]
      have h0 := Rnd.exact (r := 0) (by omega)
      rw [sv_zero] at h0
      exact h0
  · rw [if_neg h0]
    obtain ⟨r, hr, hR⟩ := nearest_rnd (decide (T < 0)) T.natAbs (min i j) (by omega)
    have hab : (a + b).natAbs = T.natAbs * 2 ^ (min i j + 1074).toNat := by
      rw [he, Int.natAbs_mul]; rfl
    have hs : a + b < 0 ↔ T < 0 := by
      rw [he]
      have hp' : (0 : Int) < ((2 ^ (min i j + 1074).toNat : Nat) : Int) := by omega
      constructor
      · intro h
        rcases Int.lt_or_le T 0 with h' | h'
        · exact h'
        · have := Int.mul_nonneg h' (Int.le_of_lt hp'); omega
      · intro h; exact Int.mul_neg_of_neg_of_pos h hp'
    have hz : a + b ≠ 0 := by
      rw [he]
      exact Int.mul_ne_zero h0 (by omega)
    have e0 : (-(min i j + 1074)).toNat = 0 := by omega
    rw [e0, Nat.pow_zero, ← hab] at hR
    refine ⟨decide (T < 0), r, by rw [hr], hR, fun _ => ?_, fun h => absurd h hz⟩
    simp only [hs]


theorem product_fin {s t : Bool} {m n : Nat} {i j : Int} (hi : -1074 ≤ i) (hj : -1074 ≤ j) {a b : Nat}
    (ha : m * 2 ^ (i + 1074).toNat = a) (hb : n * 2 ^ (j + 1074).toNat = b) (c : Nat) (hc : (c : Int) = 1074) :
    ∃ r, ((Datum.number s m i).product (.number t n j)).map double.write = some (double.word (s ^^ t) r) ∧ Rnd r (a * b) (2 ^ c) := by
  unfold Datum.product
  dsimp only
  rw [Option.map_some]
  unfold Format.write
  dsimp only
  by_cases h0 : m * n = 0
  · rw [h0]
    refine ⟨0, ?_, ?_⟩
    · unfold Format.nearest; rw [if_pos rfl]
    · have : a * b = 0 := by
        rw [← ha, ← hb]
        rcases Nat.mul_eq_zero.1 h0 with h | h <;> rw [h] <;> simp
      rw [this]
      exact Rnd.same (by omega) (Nat.two_pow_pos _) (by rw [sv_zero, Nat.zero_mul, Nat.zero_mul]) (Rnd.exact (r := 0) (by omega))
  · obtain ⟨r, hr, hR⟩ := nearest_rnd (s ^^ t) (m * n) (i + j) h0
    refine ⟨r, by rw [hr], Rnd.same (Nat.two_pow_pos _) (Nat.two_pow_pos _) ?_ hR⟩
    rw [← ha, ← hb]
    have e : 2 ^ (i + j + 1074).toNat * 2 ^ c = 2 ^ (i + 1074).toNat * 2 ^ (j + 1074).toNat * 2 ^ (-(i + j + 1074)).toNat := by
      rw [← Nat.pow_add, ← Nat.pow_add, ← Nat.pow_add]
      exact congrArg (2 ^ ·) (by omega)
    generalize 2 ^ (i + j + 1074).toNat = x1 at *
    generalize 2 ^ (-(i + j + 1074)).toNat = x2 at *
    generalize 2 ^ (i + 1074).toNat = x3 at *
    generalize 2 ^ (j + 1074).toNat = x4 at *
    generalize 2 ^ c = u at *
    calc m * n * x1 * u = m * n * (x1 * u) := by ac_rfl
      _ = m * n * (x3 * x4 * x2) := by rw [e]
      _ = m * x3 * (n * x4) * x2 := by ac_rfl

/-- the digit that tells of what is left over tells all that a rounding asks -/
theorem sticky {D n f g e : Nat} (hn : 0 < n) (hf : f = D / n) (hbig : 9007199254740992 ≤ f) (r : Nat) :
    above r ((2 * f + (D % n != 0).toNat) * 2 ^ g) (2 ^ (e + 1)) ↔ above r (D * 2 ^ g) (n * 2 ^ e) := by
  have hD : D = n * f + D % n := by rw [hf]; exact (Nat.div_add_mod D n).symm
  have hr : D % n < n := Nat.mod_lt _ hn
  generalize D % n = q at *
  clear hf
  unfold above
  obtain ⟨u, E, hu, hm⟩ : ∃ u E, u < 18014398509481984 ∧ sv r + sv (r + 1) = u * 2 ^ E := by
    by_cases h : r < 4503599627370496
    · refine ⟨2 * r + 1, 0, by omega, ?_⟩
      have h1 : sv (r + 1) = r + 1 := by
        have := sv_at (L := 0) (k := r + 1) (by omega) (by omega)
        rw [Nat.zero_mul, Nat.zero_add, Nat.pow_zero, Nat.mul_one] at this
        exact this
      rw [sv_small h, h1]; omega
    · obtain ⟨qq, ff, hff, rfl⟩ := split_rung r h
      refine ⟨2 * (4503599627370496 + ff) + 1, qq, by omega, ?_⟩
      have e1 : (qq + 1) * 4503599627370496 + ff = qq * 4503599627370496 + (4503599627370496 + ff) := by omega
      have h1 : sv ((qq + 1) * 4503599627370496 + ff + 1) = (4503599627370496 + ff + 1) * 2 ^ qq := by
        rw [e1, Nat.add_assoc, sv_at (by omega) (fun _ => by omega)]
      rw [sv_split qq ff hff, h1, ← Nat.add_mul]
      congr 1; omega
  rw [hm]
  -- both sides over 2 ^ (e + E) and 2 ^ g
  have key : ∀ Z : Nat, (2 * Z < 2 * f + (q != 0).toNat ↔ Z * n < D) ∧ (2 * Z = 2 * f + (q != 0).toNat ↔ Z * n = D) := by
    intro Z
    have h1 : Z ≤ f → Z * n ≤ n * f := fun h => by rw [Nat.mul_comm n]; exact Nat.mul_le_mul_right n h
    have h2 : Z + 1 ≤ f → Z * n + n ≤ n * f := fun h => by
      have := Nat.mul_le_mul_right n h
      rw [Nat.add_mul, Nat.one_mul] at this
      rw [Nat.mul_comm n]; exact this
    have h3 : f + 1 ≤ Z → n * f + n ≤ Z * n := fun h => by
      have := Nat.mul_le_mul_right n h
      rw [Nat.add_mul, Nat.one_mul] at this
      rw [Nat.mul_comm n]; exact this
    have h4 : f ≤ Z → n * f ≤ Z * n := fun h => by rw [Nat.mul_comm n]; exact Nat.mul_le_mul_right n h
    rcases Nat.eq_zero_or_pos q with h0 | h0
    · subst h0
      simp only [bne_self_eq_false, Bool.toNat_false]
      constructor <;> constructor <;> intro h
      · have := h2 (by omega); omega
      · rcases Nat.lt_or_ge Z f with h' | h'
        · omega
        · have := h4 h'; omega
      · have := h1 (by omega); have := h4 (by omega); omega
      · rcases Nat.lt_or_ge Z f with h' | h'
        · have := h2 h'; omega
        · rcases Nat.lt_or_ge f Z with h'' | h''
          · have := h3 h''; omega
          · omega
    · have hb : (q != 0) = true := by simp; omega
      rw [hb, Bool.toNat_true]
      constructor <;> constructor <;> intro h
      · have := h1 (by omega); omega
      · rcases Nat.lt_or_ge f Z with h' | h'
        · have := h3 h'; omega
        · omega
      · omega
      · rcases Nat.lt_or_ge f Z with h' | h'
        · have := h3 h'; omega
        · have := h1 h'; omega
  have hpg : 0 < 2 ^ g := Nat.two_pow_pos g
  by_cases hc : g + 1 ≤ E + e
  · -- the midpoint lies on the grid
    obtain ⟨d, hd⟩ : ∃ d, E + e = g + 1 + d := ⟨E + e - (g + 1), by omega⟩
    obtain ⟨k1, k2⟩ := key (u * 2 ^ d)
    have hE : 2 ^ E * 2 ^ e = 2 ^ g * 2 * 2 ^ d := by rw [← Nat.pow_add, hd, Nat.pow_add, Nat.pow_succ]
    have e1 : u * 2 ^ E * 2 ^ (e + 1) = 2 * (u * 2 ^ d) * (2 * 2 ^ g) := by
      rw [Nat.pow_succ]
      have : u * 2 ^ E * (2 ^ e * 2) = u * (2 ^ E * 2 ^ e) * 2 := by ac_rfl
      rw [this, hE]; ac_rfl
    have e2 : u * 2 ^ E * (n * 2 ^ e) = u * 2 ^ d * n * (2 * 2 ^ g) := by
      have : u * 2 ^ E * (n * 2 ^ e) = u * n * (2 ^ E * 2 ^ e) := by ac_rfl
      rw [this, hE]; ac_rfl
    rw [e1, e2, ← Nat.mul_assoc 2 _ (2 ^ g), ← Nat.mul_assoc 2 D (2 ^ g)]
    have e3 : 2 * (2 * f + (q != 0).toNat) * 2 ^ g = (2 * f + (q != 0).toNat) * (2 * 2 ^ g) := by ac_rfl
    have e4 : 2 * D * 2 ^ g = D * (2 * 2 ^ g) := by ac_rfl
    rw [e3, e4]
    have hp2 : 0 < 2 * 2 ^ g := by omega
    rw [Nat.mul_lt_mul_right hp2, Nat.mul_lt_mul_right hp2, Nat.mul_right_cancel_iff hp2, Nat.mul_right_cancel_iff hp2, k1, k2]
  · -- the midpoint lies below the number
    have hle : 2 ^ E * 2 ^ e ≤ 2 ^ g := by rw [← Nat.pow_add]; exact pow_le_of (by omega)
    have h1 : u * 2 ^ E * 2 ^ e < 18014398509481984 * 2 ^ g := by
      rw [Nat.mul_assoc]
      have : u * (2 ^ E * 2 ^ e) ≤ u * 2 ^ g := Nat.mul_le_mul_left u hle
      have : u * 2 ^ g < 18014398509481984 * 2 ^ g := Nat.mul_lt_mul_of_pos_right hu hpg
      omega
    constructor <;> intro _ <;> left
    · have e2 : u * 2 ^ E * (n * 2 ^ e) = u * 2 ^ E * 2 ^ e * n := by ac_rfl
      have h2 : u * 2 ^ E * 2 ^ e * n < 18014398509481984 * 2 ^ g * n := Nat.mul_lt_mul_of_pos_right h1 hn
      have h3 : 18014398509481984 * n ≤ 2 * D := by
        have : 9007199254740992 * n ≤ f * n := Nat.mul_le_mul_right n hbig
        rw [Nat.mul_comm f n] at this
        omega
      have h4 := Nat.mul_le_mul_right (2 ^ g) h3
      have e5 : 18014398509481984 * n * 2 ^ g = 18014398509481984 * 2 ^ g * n := Nat.mul_right_comm _ _ _
      have e6 : 2 * D * 2 ^ g = 2 * (D * 2 ^ g) := Nat.mul_assoc _ _ _
      omega
    · rw [Nat.pow_succ, ← Nat.mul_assoc]
      have h4 : 18014398509481984 * 2 ^ g ≤ (2 * f + (q != 0).toNat) * 2 ^ g := Nat.mul_le_mul_right _ (by omega)
      omega

theorem quotient_fin {s t : Bool} {m n : Nat} {i j : Int} (hi : -1074 ≤ i) (hj : -1074 ≤ j) {a b : Nat} (hm0 : m ≠ 0) (hn0 : n ≠ 0) (hm : m < 9007199254740992)
    (ha : m * 2 ^ (i + 1074).toNat = a) (hb : n * 2 ^ (j + 1074).toNat = b) (c : Nat) (hc : (c : Int) = 1074) :
    ∃ r, ((Datum.number s m i).quotient 54 (.number t n j)).map double.write = some (double.word (s ^^ t) r) ∧ Rnd r (a * 2 ^ c) b := by
  unfold Datum.quotient
  dsimp only
  rw [if_neg hn0, Option.map_some]
  unfold Format.write
  dsimp only
  have hl1 : 2 ^ n.log2 ≤ n := Nat.log2_self_le hn0
  have hl2 : n < 2 ^ (n.log2 + 1) := Nat.lt_log2_self
  have hl3 : 2 ^ m.log2 ≤ m := Nat.log2_self_le hm0
  have hlm : m.log2 < 53 := by
    rcases Nat.lt_or_ge m.log2 53 with h | h
    · exact h
    · have : 2 ^ 53 ≤ 2 ^ m.log2 := pow_le_of h
      omega
  generalize hmore : 54 + n.log2 - m.log2 = more
  have hD : 2 ^ (54 + n.log2) ≤ m * 2 ^ more := by
    have h1 : 2 ^ m.log2 * 2 ^ more ≤ m * 2 ^ more := Nat.mul_le_mul_right _ hl3
    rw [← Nat.pow_add, show m.log2 + more = 54 + n.log2 from by omega] at h1
    exact h1
  have hbig : 9007199254740992 ≤ m * 2 ^ more / n := by
    rw [Nat.le_div_iff_mul_le (by omega)]
    have h1 : 9007199254740992 * n ≤ 9007199254740992 * 2 ^ (n.log2 + 1) := Nat.mul_le_mul_left _ (by omega)
    have h2 : 9007199254740992 * 2 ^ (n.log2 + 1) = 2 ^ (54 + n.log2) := by
      rw [show (9007199254740992 : Nat) = 2 ^ 53 from rfl, ← Nat.pow_add]; exact congrArg (2 ^ ·) (by omega)
    omega
  rw [Nat.shiftLeft_eq]
  have hS0 : 2 * (m * 2 ^ more / n) + (m * 2 ^ more % n != 0).toNat ≠ 0 := by omega
  obtain ⟨r, hr, hR⟩ := nearest_rnd (s ^^ t) (2 * (m * 2 ^ more / n) + (m * 2 ^ more % n != 0).toNat) (i - j - more - 1) hS0
  refine ⟨r, by rw [hr], ?_⟩
  have hn : 0 < n := by omega
  -- to one scale
  have hR2 : Rnd r ((2 * (m * 2 ^ more / n) + (m * 2 ^ more % n != 0).toNat) * 2 ^ (i - j - more + 1074).toNat) (2 ^ ((-(i - j - more + 1074)).toNat + 1)) := by
    refine Rnd.same (Nat.two_pow_pos _) (Nat.two_pow_pos _) ?_ hR
    rw [Nat.mul_assoc, Nat.mul_assoc, ← Nat.pow_add, ← Nat.pow_add]
    rw [show (i - j - ↑more - 1 + 1074).toNat + ((-(i - j - ↑more + 1074)).toNat + 1) = (i - j - ↑more + 1074).toNat + (-(i - j - ↑more - 1 + 1074)).toNat from by omega]
  have hR3 : Rnd r (m * 2 ^ more * 2 ^ (i - j - more + 1074).toNat) (n * 2 ^ (-(i - j - more + 1074)).toNat) :=
    ⟨hR2.1, fun k hk => (hR2.2 k hk).trans (sticky hn rfl hbig k)⟩
  refine Rnd.same (Nat.mul_pos hn (Nat.two_pow_pos _)) ?_ ?_ hR3
  · rw [← hb]; exact Nat.mul_pos hn (Nat.two_pow_pos _)
  · rw [← ha, ← hb]
    have e : 2 ^ more * 2 ^ (i - j - more + 1074).toNat * 2 ^ (j + 1074).toNat = 2 ^ (i + 1074).toNat * 2 ^ c * 2 ^ (-(i - j - more + 1074)).toNat := by
      rw [← Nat.pow_add, ← Nat.pow_add, ← Nat.pow_add, ← Nat.pow_add]
      exact congrArg (2 ^ ·) (by omega)
    generalize 2 ^ more = x0 at *
    generalize 2 ^ (i - j - more + 1074).toNat = x1 at *
    generalize 2 ^ (-(i - j - more + 1074)).toNat = x2 at *
    generalize 2 ^ (i + 1074).toNat = x3 at *
    generalize 2 ^ (j + 1074).toNat = x4 at *
    generalize 2 ^ c = x5 at *
    calc m * x0 * x1 * (n * x4) = m * n * (x0 * x1 * x4) := by ac_rfl
      _ = m * n * (x3 * x5 * x2) := by rw [e]
      _ = m * x3 * x5 * (n * x2) := by ac_rfl

/-! ### whole numbers -/

def e74 : Nat := 1074
theorem e74_eq : e74 = 1074 := rfl
theorem e74_int : (e74 : Int) = 1074 := rfl
attribute [irreducible] e74
def U : Nat := 2 ^ e74
theorem U_pos : 0 < U := Nat.two_pow_pos _
theorem U_def : U = 2 ^ e74 := rfl
attribute [irreducible] U

/-- the word x stands for the whole number n -/
structure Rep (x : Nat) (n : Int) : Prop where
  fin : Fin x
  val : V x = n * U
  bd : n.natAbs ≤ 9007199254740992

theorem rep_rung (k : Nat) (hk : k ≤ 9007199254740992) : ∃ r, sv r = k * U ∧ r < 9218868437227405312 := by
  rcases Nat.lt_or_ge k 9007199254740992 with h | h
  · obtain ⟨r, h1, h2⟩ := rep e74 k h
    rw [← U_def] at h1
    exact ⟨r, h1, by rw [e74_eq] at h2; omega⟩
  · have : k = 9007199254740992 := by omega
    subst this
    refine ⟨e74 * 4503599627370496 + 9007199254740992, ?_, by rw [e74_eq]; omega⟩
    rw [sv_at (by omega) (fun _ => by omega), U_def]

/-- a word that was rounded from a whole number stands for it -/
theorem Rep.of_rnd {s : Bool} {r : Nat} {n : Int} {A B : Nat} (hB : 0 < B) (hR : Rnd r A B) (hA : A = n.natAbs * U * B) (hn : n.natAbs ≤ 9007199254740992) (hs : n ≠ 0 → s = decide (n < 0)) :
    Rep (double.word s r) n ∧ sv r = n.natAbs * U ∧ r < 9218868437227405312 := by
  obtain ⟨r0, h1, h2⟩ := rep_rung _ hn
  have hr : r = r0 := Rnd.uniq hB (by omega) (by rw [h1, hA, Nat.mul_one]) hR (Rnd.exact (Nat.le_of_lt h2))
  subst hr
  refine ⟨⟨word_fin h2, ?_, hn⟩, h1, h2⟩
  rw [word_V (Nat.le_of_lt h2), h1]
  by_cases h0 : n = 0
  · subst h0; cases s <;> simp [sgn]
  · rw [hs h0]
    unfold sgn
    by_cases hneg : n < 0
    · rw [if_pos (by simpa using hneg)]
      have : ((n.natAbs : Nat) : Int) = -n := by omega
      rw [Int.natCast_mul, this, Int.neg_mul, Int.neg_neg]
    · rw [if_neg (by simpa using hneg)]
      have : ((n.natAbs : Nat) : Int) = n := by omega
      rw [Int.natCast_mul, this]

theorem order_rep {x y : Nat} {a b : Int} (hx : Rep x a) (hy : Rep y b) : double.order x y = some (compare a b) := by
  rw [order_fin hx.fin hy.fin, hx.val, hy.val, compare_mul _ _ _ U_pos]

theorem natAbs_add_U (a b : Int) : (a * (U : Int) + b * U).natAbs = (a + b).natAbs * U := by
  rw [← Int.add_mul, Int.natAbs_mul]; rfl

theorem addU_zero (a b : Int) : (a * (U : Int) + b * U ≠ 0 ↔ a + b ≠ 0) ∧ (a * (U : Int) + b * U < 0 ↔ a + b < 0) := by
  have hU : (0 : Int) < U := by have := U_pos; omega
  rw [← Int.add_mul]
  constructor
  · constructor
    · intro h h'; exact h (by rw [h']; simp)
    · intro h; exact Int.mul_ne_zero h (by omega)
  · constructor
    · intro h
      rcases Int.lt_or_le (a + b) 0 with h' | h'
      · exact h'
      · have := Int.mul_nonneg h' (Int.le_of_lt hU); omega
    · intro h; exact Int.mul_neg_of_neg_of_pos h hU

theorem add_rep {x y : Nat} {a b : Int} (hx : Rep x a) (hy : Rep y b) (hb : (a + b).natAbs ≤ 9007199254740992) :
    ∃ r, double.add x y = some r ∧ Rep r (a + b) := by
  obtain ⟨m, i, ex, hi, _, vx⟩ := read_fin hx.fin
  obtain ⟨n, j, ey, hj, _, vy⟩ := read_fin hy.fin
  unfold Format.add
  rw [ex, ey]
  obtain ⟨q, r, h1, h2, h3, _⟩ := sum_fin hi hj (a := a * U) (b := b * U) (by rw [vx]; exact hx.val) (by rw [vy]; exact hy.val)
  refine ⟨_, h1, (Rep.of_rnd (by omega) h2 (by rw [natAbs_add_U, Nat.mul_one]) hb fun h0 => ?_).1⟩
  rw [h3 ((addU_zero a b).1.2 h0)]
  simp only [(addU_zero a b).2]

theorem sub_rep {x y : Nat} {a b : Int} (hx : Rep x a) (hy : Rep y b) (hb : (a - b).natAbs ≤ 9007199254740992) :
    ∃ r, double.sub x y = some r ∧ Rep r (a - b) := by
  obtain ⟨m, i, ex, hi, _, vx⟩ := read_fin hx.fin
  obtain ⟨n, j, ey, hj, _, vy⟩ := read_fin hy.fin
  unfold Format.sub
  rw [ex, ey]
  unfold Datum.opposite
  dsimp only
  have hneg : ∀ (s : Bool) (k : Nat), sgn (!s) k = - sgn s k := fun s k => by cases s <;> simp [sgn]
  obtain ⟨q, r, h1, h2, h3, _⟩ := sum_fin (t := !(y / 9223372036854775808 % 2 == 1)) hi hj (a := a * U) (b := (-b) * U) (by rw [vx]; exact hx.val) (by rw [vy, hneg, Int.neg_mul, ← hy.val]; rfl)
  have e : a - b = a + -b := by omega
  rw [e]
  refine ⟨_, h1, (Rep.of_rnd (by omega) h2 (by rw [natAbs_add_U, Nat.mul_one]) (by rw [← e]; exact hb) fun h0 => ?_).1⟩
  rw [h3 ((addU_zero a (-b)).1.2 h0)]
  simp only [(addU_zero a (-b)).2]

theorem sgn_abs {s : Bool} {k : Nat} {n : Int} (h : sgn s k = n * U) : k = n.natAbs * U := by
  have := congrArg Int.natAbs h
  rw [sgn_natAbs, Int.natAbs_mul] at this
  exact this

theorem sgn_sign {s : Bool} {k : Nat} {n : Int} (h : sgn s k = n * U) (h0 : n ≠ 0) : s = decide (n < 0) := by
  have hU : (0 : Int) < U := by have := U_pos; omega
  cases s
  · have : (0 : Int) ≤ n * U := by rw [← h]; simp [sgn]
    have : ¬ n < 0 := fun h' => by have := Int.mul_neg_of_neg_of_pos h' hU; omega
    simp [this]
  · have h1 : n * U ≤ 0 := by rw [← h]; simp [sgn]
    have : n < 0 := by
      rcases Int.lt_or_le 0 n with h' | h'
      · have := Int.mul_pos h' hU; omega
      · omega
    simp [this]

theorem mul_rep {x y : Nat} {a b : Int} (hx : Rep x a) (hy : Rep y b) (hb : (a * b).natAbs ≤ 9007199254740992) :
    ∃ r, double.mul x y = some r ∧ Rep r (a * b) := by
  obtain ⟨m, i, ex, hi, _, vx⟩ := read_fin hx.fin
  obtain ⟨n, j, ey, hj, _, vy⟩ := read_fin hy.fin
  unfold Format.mul
  rw [ex, ey]
  obtain ⟨r, h1, h2⟩ := product_fin (s := x / 9223372036854775808 % 2 == 1) (t := y / 9223372036854775808 % 2 == 1) hi hj vx vy e74 e74_int
  refine ⟨_, h1, (Rep.of_rnd (Nat.two_pow_pos _) h2 ?_ hb fun h0 => ?_).1⟩
  · have e1 := sgn_abs hx.val
    have e2 := sgn_abs hy.val
    rw [e1, e2, Int.natAbs_mul, ← U_def]
    ac_rfl
  · have ha : a ≠ 0 := fun h => h0 (by rw [h]; simp)
    have hb : b ≠ 0 := fun h => h0 (by rw [h]; simp)
    have e1 := sgn_sign hx.val ha
    have e2 := sgn_sign hy.val hb
    rw [e1, e2]
    rcases Int.lt_or_gt_of_ne ha with h1 | h1 <;> rcases Int.lt_or_gt_of_ne hb with h2 | h2
    · have := Int.mul_pos_of_neg_of_neg h1 h2
      simp [h1, h2]; omega
    · have := Int.mul_neg_of_neg_of_pos h1 h2
      have : ¬ b < 0 := by omega
      simp [*]
    · have := Int.mul_neg_of_pos_of_neg h1 h2
      have : ¬ a < 0 := by omega
      simp [*]
    · have := Int.mul_pos h1 h2
      have : ¬ a < 0 := by omega
      have : ¬ b < 0 := by omega
      have : ¬ a * b < 0 := by omega
      simp [*]
end PF
