import Derived.Test.YtdlcckkphjpeoaaGreatFltC
set_option linter.unusedSimpArgs false
set_option linter.unusedVariables false
namespace PF
open Ieee Go

theorem compare_iff {a b c d : Int} (h1 : a < b ↔ c < d) (h2 : b < a ↔ d < c) : compare a b = compare c d := by
  simp only [compare, compareOfLessAndEq]
  have h3 : a = b ↔ c = d := by
    constructor
    · intro h
      have : ¬ c < d := fun h' => by have := h1.2 h'; omega
      have : ¬ d < c := fun h' => by have := h2.2 h'; omega
      omega
    · intro h
      have : ¬ a < b := fun h' => by have := h1.1 h'; omega
      have : ¬ b < a := fun h' => by have := h2.1 h'; omega
      omega
  simp only [h1, h3]

theorem Quo.neg {x : Nat} {a b : Int} (hb : b ≠ 0) (h : Quo x a b) : Quo x (-a) (-b) := by
  obtain ⟨s, q, h1, h2, h3⟩ := h
  refine ⟨s, q, h1, by rw [Int.natAbs_neg, Int.natAbs_neg]; exact h2, fun h0 => ?_⟩
  rw [h3 (by omega)]
  by_cases ha : a < 0 <;> by_cases hb' : b < 0 <;> simp [ha, hb'] <;> omega

theorem quo_pos {q p b : Nat} (hb : 0 < b) (hp0 : 0 < p) (hp : p < 2147483648) (hbb : b < 2147483648) (h : Rnd q (p * U) b) : 0 < q := by
  have h0 : Rnd 0 (0 * U) 1 := by
    have := Rnd.exact (r := 0) (by omega)
    rw [sv_zero] at this
    rw [Nat.zero_mul]; exact this
  exact quo_strict (by omega) hb (by omega) (by omega) hbb (by omega) h0 h (by omega) (by omega)

theorem quo_zero {q b : Nat} (hb : 0 < b) (h : Rnd q (0 * U) b) : q = 0 := by
  have h0 : Rnd 0 (0 * U) 1 := by
    have := Rnd.exact (r := 0) (by omega)
    rw [sv_zero] at this
    rw [Nat.zero_mul]; exact this
  exact Rnd.uniq hb (by omega) (by rw [Nat.zero_mul]; simp) h h0

/-- the sign and the size of a quotient's word -/
theorem Quo.val {x : Nat} {a : Int} {b : Nat} (hb : 0 < b) (ha : a.natAbs < 2147483648) (hbb : b < 2147483648) (h : Quo x a b) :
    Fin x ∧ ∃ q, Rnd q (a.natAbs * U) b ∧ (0 ≤ a → V x = sv q) ∧ (a < 0 → V x = -(sv q : Int) ∧ 0 < q) := by
  obtain ⟨s, q, h1, h2, h3⟩ := h
  rw [Int.natAbs_natCast] at h2
  have hq := quo_lt hb (by omega) h2
  subst h1
  refine ⟨word_fin hq, q, h2, fun h0 => ?_, fun h0 => ?_⟩
  · rw [word_V (Nat.le_of_lt hq)]
    by_cases hz : a = 0
    · subst hz
      have : q = 0 := quo_zero hb h2
      subst this
      rw [sv_zero]; unfold sgn; cases s <;> rfl
    · have : s = false := by
        rw [h3 hz]
        have e1 : ¬ a < 0 := by omega
        have e2 : ¬ (b : Int) < 0 := by omega
        simp [e1, e2]
      subst this; rfl
  · have : s = true := by
      rw [h3 (by omega)]
      have e2 : ¬ (b : Int) < 0 := by omega
      simp [h0, e2]
    subst this
    refine ⟨by rw [word_V (Nat.le_of_lt hq)]; rfl, quo_pos hb (by omega) ha hbb h2⟩

theorem quo_order_pos {w w' : Nat} {a c : Int} {b d : Nat} (h : Quo w a b) (h' : Quo w' c d) (hb : 0 < b) (hd : 0 < d)
    (ha : a.natAbs < 8388608) (hc : c.natAbs < 8388608) (hbb : b < 8388608) (hdb : d < 8388608) :
    double.order w w' = some (compare (a * d) (c * b)) := by
  obtain ⟨f1, q, r1, p1, n1⟩ := h.val hb (by omega) (by omega)
  obtain ⟨f2, q', r2, p2, n2⟩ := h'.val hd (by omega) (by omega)
  rw [order_fin f1 f2]
  congr 1
  have hb' : (0 : Int) < b := by omega
  have hd' : (0 : Int) < d := by omega
  have pd : a.natAbs * d < 140737488355328 := by
    have := Nat.mul_lt_mul'' ha hdb; omega
  have pb : c.natAbs * b < 140737488355328 := by
    have := Nat.mul_lt_mul'' hc hbb; omega
  have lt1 : a.natAbs * d < c.natAbs * b → q < q' := fun hl => quo_strict hb hd (by omega) (by omega) (by omega) (by omega) r1 r2 hl pd
  have lt2 : c.natAbs * b < a.natAbs * d → q' < q := fun hl => quo_strict hd hb (by omega) (by omega) (by omega) (by omega) r2 r1 hl pb
  have eq1 : a.natAbs * d = c.natAbs * b → q = q' := fun he => quo_same hb hd r1 r2 he
  have sm : ∀ {x y : Nat}, x < y → (sv x : Int) < sv y := fun h => by exact_mod_cast sv_lt h
  have na : ∀ (z : Int) (k : Nat), 0 ≤ z → z * k = ((z.natAbs * k : Nat) : Int) := fun z k hz => by
    rw [Int.natCast_mul, show ((z.natAbs : Nat) : Int) = z from by omega]
  have nn : ∀ (z : Int) (k : Nat), z < 0 → z * k = -((z.natAbs * k : Nat) : Int) := fun z k hz => by
    rw [Int.natCast_mul, show ((z.natAbs : Nat) : Int) = -z from by omega, Int.neg_mul, Int.neg_neg]
  have key : (q < q' ↔ a.natAbs * d < c.natAbs * b) ∧ (q' < q ↔ c.natAbs * b < a.natAbs * d) := by
    rcases Nat.lt_trichotomy (a.natAbs * d) (c.natAbs * b) with h1 | h1 | h1
    · have := lt1 h1; omega
    · have := eq1 h1; omega
    · have := lt2 h1; omega
  have key2 : ((sv q : Int) < sv q' ↔ a.natAbs * d < c.natAbs * b) ∧ ((sv q' : Int) < sv q ↔ c.natAbs * b < a.natAbs * d) := by
    rw [← key.1, ← key.2, Int.ofNat_lt, Int.ofNat_lt, sv_lt_iff, sv_lt_iff]
    exact ⟨Iff.rfl, Iff.rfl⟩
  have pos : ∀ x : Nat, 0 < x → (0 : Int) < sv x := fun x hx => by have := le_sv x; omega
  rcases Int.lt_or_le a 0 with h1 | h1 <;> rcases Int.lt_or_le c 0 with h2 | h2
  · rw [(n1 h1).1, (n2 h2).1, nn a d h1, nn c b h2]
    apply compare_iff <;> constructor <;> intro h <;> omega
  · rw [(n1 h1).1, p2 h2, nn a d h1, na c b h2]
    have := pos q (n1 h1).2
    have := Nat.mul_pos (show 0 < a.natAbs by omega) hd
    apply compare_iff <;> constructor <;> intro h <;> omega
  · rw [p1 h1, (n2 h2).1, na a d h1, nn c b h2]
    have := pos q' (n2 h2).2
    have := Nat.mul_pos (show 0 < c.natAbs by omega) hb
    apply compare_iff <;> constructor <;> intro h <;> omega
  · rw [p1 h1, p2 h2, na a d h1, na c b h2]
    apply compare_iff <;> constructor <;> intro h <;> omega

/-- for a walk: quotients by whatever is not nought, compared -/
theorem quo_order {w w' : Nat} {a b c d : Int} (h : Quo w a b) (h' : Quo w' c d) (hb : b ≠ 0) (hd : d ≠ 0)
    (ha : a.natAbs < 8388608) (hc : c.natAbs < 8388608) (hbb : b.natAbs < 8388608) (hdb : d.natAbs < 8388608) :
    double.order w w' = some (if 0 < b * d then compare (a * d) (c * b) else compare (c * b) (a * d)) := by
  have main : ∀ {w w' : Nat} {a b c d : Int}, Quo w a b → Quo w' c d → 0 < b → 0 < d → a.natAbs < 8388608 → c.natAbs < 8388608 → b.natAbs < 8388608 → d.natAbs < 8388608 → double.order w w' = some (compare (a * d) (c * b)) := by
    intro w w' a b c d h h' hb hd ha hc hbb hdb
    obtain ⟨b', rfl⟩ := Int.eq_ofNat_of_zero_le (Int.le_of_lt hb)
    obtain ⟨d', rfl⟩ := Int.eq_ofNat_of_zero_le (Int.le_of_lt hd)
    exact quo_order_pos h h' (by omega) (by omega) ha hc (by omega) (by omega)
  rcases Int.lt_or_gt_of_ne hb with h1 | h1 <;> rcases Int.lt_or_gt_of_ne hd with h2 | h2
  · rw [main (h.neg hb) (h'.neg hd) (by omega) (by omega) (by omega) (by omega) (by omega) (by omega), if_pos (Int.mul_pos_of_neg_of_neg h1 h2), Int.neg_mul_neg, Int.neg_mul_neg]
  · have hn := Int.mul_neg_of_neg_of_pos h1 h2
    rw [main (h.neg hb) h' (by omega) h2 (by omega) hc (by omega) hdb, if_neg (by omega), Int.neg_mul, Int.mul_neg]
    congr 1
    apply compare_iff <;> omega
  · have hn := Int.mul_neg_of_pos_of_neg h1 h2
    rw [main h (h'.neg hd) h1 (by omega) ha (by omega) hbb (by omega), if_neg (by omega), Int.neg_mul, Int.mul_neg]
    congr 1
    apply compare_iff <;> omega
  · rw [main h h' h1 h2 ha hc hbb hdb, if_pos (Int.mul_pos h1 h2)]
end PF
