import Derived.Test.YtdlcckkphjpeoaaGreatFltD
set_option linter.unusedSimpArgs false
set_option linter.unusedVariables false
namespace PF
open Ieee Go

/-! ### infinities, no numbers -/

theorem read_inf (s : Bool) : double.read (double.word s 9218868437227405312) = .infinity s := by
  rw [read_def, word_mod (by omega), word_sign (by omega), if_neg (by omega), if_neg (by omega), if_pos rfl]

theorem order_inf_left {s : Bool} {y : Nat} (hy : Fin y) : double.order (double.word s 9218868437227405312) y = some (if s then .lt else .gt) := by
  obtain ⟨n, j, ey, _⟩ := read_fin hy
  unfold Format.order
  rw [read_inf, ey]
  rfl

theorem order_inf_right {s : Bool} {x : Nat} (hx : Fin x) : double.order x (double.word s 9218868437227405312) = some (if s then .gt else .lt) := by
  obtain ⟨n, j, ex, _⟩ := read_fin hx
  unfold Format.order
  rw [read_inf, ex]
  rfl

/-- no number: compared with whatever, nothing comes of it -/
def Nan (x : Nat) : Prop := ∀ z, double.order x z = none ∧ double.order z x = none

theorem nan_of_read {x : Nat} {s : Bool} {f : Nat} (h : double.read x = .nan s f) : Nan x := by
  intro z
  unfold Format.order
  rw [h]
  constructor
  · rfl
  · cases double.read z <;> rfl

/-! ### what lies just above a whole number -/

/-- the word x stands for a little more than n -/
structure Nxt (x : Nat) (n : Int) : Prop where
  fin : Fin x
  lo : n * U < V x
  hi : (V x - n * U) * 1048576 ≤ U

theorem mulU {a b : Int} (h : a ≤ b) : a * (U : Int) ≤ b * U := Int.mul_le_mul_of_nonneg_right h (by omega)

theorem order_nxt {x y : Nat} {n b : Int} (hx : Nxt x n) (hy : Rep y b) : double.order x y = some (if n < b then .lt else .gt) := by
  rw [order_fin hx.fin hy.fin, hy.val]
  congr 1
  have h1 := hx.lo
  have h2 := hx.hi
  have hU : (0 : Int) < U := by have := U_pos; omega
  by_cases h : n < b
  · rw [if_pos h]
    have : V x < b * U := by
      have h3 := mulU (show n + 1 ≤ b from h)
      rw [Int.add_mul] at h3
      omega
    simp [compare, compareOfLessAndEq, this]
  · rw [if_neg h]
    have h3 := mulU (show b ≤ n by omega)
    have h4 : ¬ V x < b * U := by omega
    have h5 : ¬ V x = b * U := by omega
    simp [compare, compareOfLessAndEq, h4, h5]

theorem order_nxt' {x y : Nat} {n b : Int} (hx : Nxt x n) (hy : Rep y b) : double.order y x = some (if n < b then .gt else .lt) := by
  rw [order_fin hy.fin hx.fin, hy.val]
  congr 1
  have h1 := hx.lo
  have h2 := hx.hi
  have hU : (0 : Int) < U := by have := U_pos; omega
  by_cases h : n < b
  · rw [if_pos h]
    have : V x < b * U := by
      have h3 := mulU (show n + 1 ≤ b from h)
      rw [Int.add_mul] at h3
      omega
    have h4 : ¬ b * U < V x := by omega
    have h5 : ¬ b * U = V x := by omega
    simp [compare, compareOfLessAndEq, h4, h5]
  · rw [if_neg h]
    have h3 := mulU (show b ≤ n by omega)
    have h4 : b * U < V x := by omega
    simp [compare, compareOfLessAndEq, h4]

/-- a little above nought, or nought -/
structure Tiny (x : Nat) : Prop where
  fin : Fin x
  lo : 0 ≤ V x
  hi : V x * 1048576 ≤ U

theorem rung_small : ∃ r, sv r * 1048576 = U ∧ r < 9218868437227405312 := by
  obtain ⟨r, h1, h2⟩ := rep (e74 - 20) 1 (by omega)
  refine ⟨r, ?_, by rw [e74_eq] at h2; omega⟩
  rw [h1, U_def, Nat.one_mul, show (1048576 : Nat) = 2 ^ 20 from rfl, ← Nat.pow_add]
  exact congrArg (2 ^ ·) (by rw [e74_eq])

theorem sub_nxt {x y : Nat} {n : Int} (hx : Nxt x n) (hy : Rep y n) : ∃ w, double.sub x y = some w ∧ Tiny w := by
  obtain ⟨m, i, ex, hi, _, vx⟩ := read_fin hx.fin
  obtain ⟨k, j, ey, hj, _, vy⟩ := read_fin hy.fin
  unfold Format.sub
  rw [ex, ey]
  unfold Datum.opposite
  dsimp only
  have hneg : ∀ (s : Bool) (k : Nat), sgn (!s) k = - sgn s k := fun s k => by cases s <;> simp [sgn]
  obtain ⟨q, r, h1, h2, h3, _⟩ := sum_fin (t := !(y / 9223372036854775808 % 2 == 1)) hi hj (a := V x) (b := (-n) * U) (by rw [vx]; rfl) (by rw [vy, hneg, Int.neg_mul, ← hy.val]; rfl)
  have hd : V x + -n * U = V x - n * U := by rw [Int.neg_mul]; omega
  rw [hd] at h2 h3
  have hl := hx.lo
  have hh := hx.hi
  have hq : q = false := by
    rw [h3 (by omega)]
    have : ¬ (V x - n * U < 0) := by omega
    simp [this]
  subst hq
  obtain ⟨r0, e1, e2⟩ := rung_small
  have hr : r ≤ r0 := Rnd.mono (by omega) (by omega) (by rw [Nat.mul_one, Nat.mul_one]; omega) h2 (Rnd.exact (Nat.le_of_lt e2))
  have hs := sv_le hr
  refine ⟨_, h1, word_fin (by omega), ?_, ?_⟩
  · rw [word_V (by omega)]; unfold sgn; simp
  · rw [word_V (by omega)]; unfold sgn; simp only [Bool.false_eq_true, if_false]; omega

/-- and its quotient by a whole number other than 0 -/
theorem div_tiny {x y : Nat} {b : Int} (hx : Tiny x) (hy : Rep y b) (hb : b ≠ 0) :
    ∃ w, double.div x y = some w ∧ Fin w ∧ (V w).natAbs * 1048576 ≤ U ∧ (0 < b → 0 ≤ V w) ∧ (b < 0 → V w ≤ 0) := by
  obtain ⟨m, i, ex, hi, hm, vx⟩ := read_fin hx.fin
  obtain ⟨n, j, ey, hj, hn, vy⟩ := read_fin hy.fin
  have eb := sgn_abs hy.val
  have hB : 0 < b.natAbs := by omega
  have hn0 : n ≠ 0 := by
    intro h; subst h
    rw [← vy, Nat.zero_mul] at eb
    have := Nat.mul_pos hB U_pos
    omega
  have hlo := hx.lo
  have hhi := hx.hi
  unfold Format.div
  rw [ex, ey, d_frac]
  by_cases hm0 : m = 0
  · subst hm0
    refine ⟨double.word ((x / 9223372036854775808 % 2 == 1) ^^ (y / 9223372036854775808 % 2 == 1)) 0, ?_, word_fin (by omega), ?_, ?_, ?_⟩
    · unfold Datum.quotient
      dsimp only
      rw [if_neg hn0, Option.map_some]
      unfold Format.write
      dsimp only
      rw [Nat.zero_shiftLeft, Nat.zero_div, Nat.zero_mod]
      unfold Format.nearest
      rw [if_pos (by simp)]
    all_goals (rw [word_V (by omega), sv_zero]; unfold sgn; simp)
  · obtain ⟨r, h1, h2⟩ := quotient_fin (s := x / 9223372036854775808 % 2 == 1) (t := y / 9223372036854775808 % 2 == 1) hi hj hm0 hn0 hm vx vy e74 e74_int
    rw [← U_def, eb] at h2
    have hsx : (x / 9223372036854775808 % 2 == 1) = false := by
      have h3 : 0 < m * 2 ^ (i + 1074).toNat := Nat.mul_pos (by omega) (Nat.two_pow_pos _)
      rw [vx] at h3
      unfold V sgn at hlo
      cases hc : (x / 9223372036854775808 % 2 == 1)
      · rfl
      · rw [hc] at hlo; simp at hlo; omega
    have hvx : V x = sv (x % 9223372036854775808) := by unfold V; rw [hsx]; rfl
    obtain ⟨r0, e1, e2⟩ := rung_small
    have hr : r ≤ r0 := by
      refine Rnd.mono (Nat.mul_pos hB U_pos) (by omega) ?_ h2 (Rnd.exact (Nat.le_of_lt e2))
      rw [Nat.mul_one, ← Nat.mul_assoc]
      refine Nat.mul_le_mul_right _ ?_
      have h5 : sv (x % 9223372036854775808) ≤ sv r0 := by omega
      exact Nat.le_trans h5 (Nat.le_mul_of_pos_right _ hB)
    have hs := sv_le hr
    have hsy := sgn_sign hy.val hb
    refine ⟨_, h1, word_fin (by omega), ?_, ?_, ?_⟩
    · rw [word_V (by omega), sgn_natAbs]; omega
    · intro hpos
      rw [word_V (by omega), hsx, hsy]
      have : ¬ b < 0 := by omega
      simp [this, sgn]
    · intro hneg
      rw [word_V (by omega), hsx, hsy]
      simp [hneg, sgn]

/-- what a quotient of small numbers is worth at least -/
theorem quo_large {q p b : Nat} (hb : 0 < b) (hp0 : 0 < p) (hbb : b < 65536) (h : Rnd q (p * U) b) : U ≤ sv q * 65536 := by
  obtain ⟨r, h1, h2⟩ := rep (e74 - 16) 1 (by omega)
  have e1 : sv r * 65536 = U := by
    rw [h1, U_def, Nat.one_mul, show (65536 : Nat) = 2 ^ 16 from rfl, ← Nat.pow_add]
    exact congrArg (2 ^ ·) (by rw [e74_eq])
  have e2 : r < 9218868437227405312 := by rw [e74_eq] at h2; omega
  have hr : r ≤ q := by
    refine Rnd.mono (by omega) hb ?_ (Rnd.exact (Nat.le_of_lt e2)) h
    rw [Nat.mul_one]
    have h5 : sv r * b ≤ sv r * 65536 := Nat.mul_le_mul_left _ (by omega)
    have h6 : U ≤ p * U := Nat.le_mul_of_pos_left _ hp0
    omega
  have := sv_le hr
  omega

theorem order_tiny {w w' : Nat} {c d : Int} (f : Fin w) (h : (V w).natAbs * 1048576 ≤ U) (h' : Quo w' c d) (hc : c ≠ 0) (hd : d ≠ 0)
    (hcb : c.natAbs < 65536) (hdb : d.natAbs < 65536) : double.order w w' = some (if 0 < c * d then .lt else .gt) := by
  have main : ∀ {c d : Int}, Quo w' c d → c ≠ 0 → 0 < d → c.natAbs < 65536 → d.natAbs < 65536 → double.order w w' = some (if 0 < c then .lt else .gt) := by
    intro c d h' hc hd hcb hdb
    obtain ⟨d', rfl⟩ := Int.eq_ofNat_of_zero_le (Int.le_of_lt hd)
    obtain ⟨f2, q, r2, p2, n2⟩ := h'.val (by omega) (by omega) (by omega)
    have hl := quo_large (by omega) (by omega) (by omega) r2
    have hU := U_pos
    rw [order_fin f f2]
    congr 1
    rcases Int.lt_or_gt_of_ne hc with h1 | h1
    · rw [if_neg (by omega), (n2 h1).1]
      have e1 : ¬ V w < -(sv q : Int) := by omega
      have e2 : ¬ V w = -(sv q : Int) := by omega
      simp [compare, compareOfLessAndEq, e1, e2]
    · rw [if_pos h1, p2 (Int.le_of_lt h1)]
      have e1 : V w < (sv q : Int) := by omega
      simp [compare, compareOfLessAndEq, e1]
  rcases Int.lt_or_gt_of_ne hd with h2 | h2
  · rw [main (h'.neg hd) (by omega) (by omega) (by omega) (by omega)]
    congr 1
    have : 0 < -c ↔ 0 < c * d := by
      constructor
      · intro h; exact Int.mul_pos_of_neg_of_neg (by omega) h2
      · intro h
        rcases Int.lt_or_gt_of_ne hc with h3 | h3
        · omega
        · have := Int.mul_neg_of_pos_of_neg h3 h2; omega
    simp only [this]
  · rw [main h' hc h2 hcb hdb]
    congr 1
    have : 0 < c ↔ 0 < c * d := by
      constructor
      · intro h; exact Int.mul_pos h h2
      · intro h
        rcases Int.lt_or_gt_of_ne hc with h3 | h3
        · have := Int.mul_neg_of_neg_of_pos h3 h2; omega
        · exact h3
    simp only [this]

/-! ### the words next to a whole number's -/

theorem nxt_pos {x : Nat} {n : Int} (h : Rep x n) (h0 : 0 < n) (hn : n ≤ 1048576) : Nxt (x + 1) n := by
  have hv : sgn (x / 9223372036854775808 % 2 == 1) (sv (x % 9223372036854775808)) = n * U := h.val
  have hs := sgn_sign hv (by omega)
  have ha := sgn_abs hv
  have f := h.fin
  have hx : x = x % 9223372036854775808 := by
    have h1 := fin_word f
    rw [hs, word_def] at h1
    have : ¬ n < 0 := by omega
    simpa [this] using h1
  obtain ⟨r0, e1, e2⟩ := rep_rung 1048577 (by omega)
  generalize hr : x % 9223372036854775808 = r at *
  have hU := U_big
  have hrr : r < r0 := by
    rw [← sv_lt_iff, e1, ha]
    exact Nat.mul_lt_mul_of_pos_right (by omega) U_pos
  obtain ⟨y, hy, hy0, gy⟩ := sv_gap r
  have hw : x + 1 = double.word false (r + 1) := by rw [word_def]; simp; omega
  rw [hw]
  have hV : V (double.word false (r + 1)) = sv (r + 1) := by rw [word_V (by omega)]; rfl
  have hnU : n * (U : Int) = ((sv r : Nat) : Int) := by
    rw [ha, Int.natCast_mul]; congr 1; omega
  have hle : sv r ≤ 1048576 * U := by rw [ha]; exact Nat.mul_le_mul_right _ (by omega)
  refine ⟨word_fin (by omega), ?_, ?_⟩
  · rw [hV, hnU]; omega
  · rw [hV, hnU, hy]
    clear hV hnU hw hrr e1 ha
    omega

theorem nxt_neg {x : Nat} {n : Int} (h : Rep x n) (h0 : n < 0) (hn : -1048576 ≤ n) : Nxt (x - 1) n := by
  have hv : sgn (x / 9223372036854775808 % 2 == 1) (sv (x % 9223372036854775808)) = n * U := h.val
  have hs := sgn_sign hv (by omega)
  have ha := sgn_abs hv
  have f := h.fin
  have hx : x = 9223372036854775808 + x % 9223372036854775808 := by
    have h1 := fin_word f
    rw [hs, word_def] at h1
    simpa [h0] using h1
  have f2 := f.2
  generalize hr : x % 9223372036854775808 = r at *
  have hU := U_big
  have hr0 : 0 < r := by
    rcases Nat.eq_zero_or_pos r with h1 | h1
    · subst h1
      rw [sv_zero] at ha
      have := Nat.mul_pos (show 0 < n.natAbs by omega) U_pos
      omega
    · exact h1
  obtain ⟨y, hy, hy0, gy⟩ := sv_gap (r - 1)
  rw [show r - 1 + 1 = r from by omega] at hy
  have hw : x - 1 = double.word true (r - 1) := by rw [word_def]; simp; omega
  rw [hw]
  have hV : V (double.word true (r - 1)) = -(sv (r - 1) : Int) := by rw [word_V (by omega)]; rfl
  have hnU : n * (U : Int) = -((sv r : Nat) : Int) := by
    rw [ha, Int.natCast_mul, ← Int.neg_mul]; congr 1; omega
  have hle : sv r ≤ 1048576 * U := by rw [ha]; exact Nat.mul_le_mul_right _ (by omega)
  refine ⟨word_fin (by omega), ?_, ?_⟩
  · rw [hV, hnU]; omega
  · rw [hV, hnU, hy]
    clear hV hnU hw ha
    omega

theorem nxt_zero : Nxt 1 0 := by
  have hw : 1 = double.word false 1 := by rw [word_def]; simp
  have hU := U_big
  rw [hw]
  have hV : V (double.word false 1) = 1 := by rw [word_V (by omega), sv_small (by omega)]; rfl
  refine ⟨word_fin (by omega), ?_, ?_⟩ <;> rw [hV] <;> omega

/-! ### a reciprocal, and its product with a whole number -/

/-- the word x is n times the rounded reciprocal of m, rounded -/
def Rcp (x : Nat) (n m : Int) : Prop := ∃ s r q, x = double.word s r ∧ Rnd q (1 * U) m.natAbs ∧ Rnd r (n.natAbs * sv q) 1 ∧ (n ≠ 0 → s = (decide (n < 0) ^^ decide (m < 0)))

theorem mul_rcp {x y : Nat} {n m : Int} (hx : Rep x n) (hy : Quo y 1 m) (hm : m ≠ 0) : ∃ w, double.mul x y = some w ∧ Rcp w n m := by
  obtain ⟨t, q, h1, h2, h3⟩ := hy
  have hq := quo_lt (by omega) (by omega) h2
  have fy : Fin y := by rw [h1]; exact word_fin hq
  obtain ⟨k, i, ex, hi, _, vx⟩ := read_fin hx.fin
  obtain ⟨l, j, ey, hj, _, vy⟩ := read_fin fy
  unfold Format.mul
  rw [ex, ey]
  obtain ⟨r, e1, e2⟩ := product_fin (s := x / 9223372036854775808 % 2 == 1) (t := y / 9223372036854775808 % 2 == 1) hi hj vx vy e74 e74_int
  have ea := sgn_abs hx.val
  have esv : sv (y % 9223372036854775808) = sv q := by rw [h1, word_mod (Nat.le_of_lt hq)]
  rw [ea, esv, ← U_def] at e2
  refine ⟨_, e1, _, r, q, rfl, h2, Rnd.same U_pos (by omega) (by ac_rfl) e2, fun h0 => ?_⟩
  have hsy : (y / 9223372036854775808 % 2 == 1) = t := by rw [h1, word_sign (Nat.le_of_lt hq)]
  rw [sgn_sign hx.val h0, hsy, h3 (by omega)]
  simp

end PF
