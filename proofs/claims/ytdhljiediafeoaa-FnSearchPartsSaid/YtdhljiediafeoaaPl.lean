import Derived.Test.YtdhljiediafeoaaPp
set_option linter.unusedSimpArgs false
set_option linter.unusedVariables false
/-! The plain law of rings: turned, bgn elsewhere. -/
namespace PF
open Go Go.RowKit JR
def okL (closed : Bool) (l : List (Int × Int)) : Prop := 2 ≤ l.length ∧ (closed = true → 3 ≤ l.length) ∧ l.length ≤ 1000 ∧ ∀ p ∈ l, Bnd p
def box (l : List (Int × Int)) : Int × Int × Int × Int := bxs l ((at' l 0).1, (at' l 0).2, (at' l 0).1, (at' l 0).2)
theorem SlQ.keep' {l h : Nat} {w w' : World} {v : Value} {L : List (Int × Int)} (hk : ∀ b, l ≤ b → b < h → b < w.heap.size → w'.heap[b]? = w.heap[b]?) (H : SlQ l h w v L) : SlQ l h w' v L := by
  obtain ⟨A, c, hv, hh⟩ := H
  refine ⟨A, c, hv, fun k p hp => ?_⟩
  obtain ⟨b, h1, h4, h5, h2, h3⟩ := hh k p hp
  have hb := World.block_lt_of_cell? w _ h2
  exact ⟨b, h1, h4, h5, (World.cell?_of_block (hk b h4 h5 hb)).trans h2, (World.cell?_of_block (hk b h4 h5 hb)).trans h3⟩
theorem SlQ.below {l h : Nat} {w w' : World} {v : Value} {L : List (Int × Int)} (H : SlQ l h w v L) (hb : Below w.heap.size w w') : SlQ l h w' v L :=
  H.keep' fun b _ _ h3 => hb.block b h3
theorem SlQ.wide {l h l' h' : Nat} {w : World} {v : Value} {L : List (Int × Int)} (H : SlQ l h w v L) (h1 : l' ≤ l) (h2 : h ≤ h') : SlQ l' h' w v L := by
  obtain ⟨A, c, hv, hh⟩ := H
  refine ⟨A, c, hv, fun k p hp => ?_⟩
  obtain ⟨b, h1, h4, h5, h2, h3⟩ := hh k p hp
  exact ⟨b, h1, by omega, by omega, h2, h3⟩
theorem SlQ.len {l h : Nat} {w : World} {v : Value} {L : List (Int × Int)} (H : SlQ l h w v L) : ∃ A c, v = .slice A L.length c := by
  obtain ⟨A, c, hv, _⟩ := H
  exact ⟨A, c, hv⟩
/-! ## cyclic -/
def cyc (l : List (Int × Int)) (i : Nat) : Int × Int := at' l (i % l.length)
theorem cyc_at {l : List (Int × Int)} {k : Nat} (h : k < l.length) : cyc l k = at' l k := by unfold cyc; rw [Nat.mod_eq_of_lt h]
theorem cyc_nx1 {l : List (Int × Int)} {k : Nat} (h : k < l.length) : cyc l (k + 1) = nx1 l k := by
  unfold cyc nx1
  split
  · rename_i e; rw [e, Nat.mod_self]
  · rw [Nat.mod_eq_of_lt (by omega)]
theorem cyc_nx2 {l : List (Int × Int)} {k : Nat} (h : k < l.length) (h2 : 2 ≤ l.length) : cyc l (k + 2) = nx2 l k := by
  unfold cyc nx2
  split
  · rename_i e; rw [show k + 2 = 1 + l.length from by omega, Nat.add_mod_right, Nat.mod_eq_of_lt (by omega)]
  · split
    · rename_i e; rw [e, Nat.mod_self]
    · rw [Nat.mod_eq_of_lt (by omega)]
def zc (l : List (Int × Int)) (k : Nat) : Int := zcr (cyc l k) (cyc l (k + 1)) (cyc l (k + 2))
theorem zc_eq {l : List (Int × Int)} {k : Nat} (h : k < l.length) (h2 : 2 ≤ l.length) : zcr (at' l k) (nx1 l k) (nx2 l k) = zc l k := by
  unfold zc; rw [cyc_at h, cyc_nx1 h, cyc_nx2 h h2]
theorem cyc_add (l : List (Int × Int)) (k : Nat) : cyc l (k + l.length) = cyc l k := by unfold cyc; rw [Nat.add_mod_right]
theorem cyc_mod (l : List (Int × Int)) (k : Nat) : cyc l (k % l.length) = cyc l k := by unfold cyc; rw [Nat.mod_mod]
theorem cyc_add_mod (l : List (Int × Int)) (k j : Nat) : cyc l (k % l.length + j) = cyc l (k + j) := by unfold cyc; rw [Nat.mod_add_mod]
theorem zc_mod (l : List (Int × Int)) (k : Nat) : zc l (k % l.length) = zc l k := by
  unfold zc; rw [cyc_mod, cyc_add_mod, cyc_add_mod]
/-! ## convex: no two turns of different sides -/
def pos (l : List (Int × Int)) (k : Nat) : Prop := ∃ i, i < k ∧ 0 < zc l i
def neg' (l : List (Int × Int)) (k : Nat) : Prop := ∃ i, i < k ∧ zc l i < 0
theorem pos_succ (l : List (Int × Int)) (k : Nat) : pos l (k + 1) ↔ pos l k ∨ 0 < zc l k := by
  constructor
  · rintro ⟨i, h1, h2⟩
    rcases Nat.lt_or_ge i k with h | h
    · exact .inl ⟨i, h, h2⟩
    · have : i = k := by omega
      subst this; exact .inr h2
  · rintro (⟨i, h1, h2⟩ | h)
    · exact ⟨i, by omega, h2⟩
    · exact ⟨k, by omega, h⟩
theorem neg_succ (l : List (Int × Int)) (k : Nat) : neg' l (k + 1) ↔ neg' l k ∨ zc l k < 0 := by
  constructor
  · rintro ⟨i, h1, h2⟩
    rcases Nat.lt_or_ge i k with h | h
    · exact .inl ⟨i, h, h2⟩
    · have : i = k := by omega
      subst this; exact .inr h2
  · rintro (⟨i, h1, h2⟩ | h)
    · exact ⟨i, by omega, h2⟩
    · exact ⟨k, by omega, h⟩
theorem cvs_iff (l : List (Int × Int)) (h2 : 2 ≤ l.length) : ∀ k, k ≤ l.length →
    ((cvs l k).1 = true ∧ pos l k ∧ neg' l k) ∨ ((cvs l k).1 = false ∧ (((cvs l k).2 = 0 ∧ ¬ pos l k ∧ ¬ neg' l k) ∨ ((cvs l k).2 = 1 ∧ pos l k ∧ ¬ neg' l k) ∨ ((cvs l k).2 = -1 ∧ ¬ pos l k ∧ neg' l k))) := by
  intro k
  induction k with
  | zero =>
    intro _
    refine .inr ⟨rfl, .inl ⟨rfl, ?_, ?_⟩⟩
    · rintro ⟨i, h, _⟩; omega
    · rintro ⟨i, h, _⟩; omega
  | succ k ih =>
    intro hk
    have ih := ih (by omega)
    rw [pos_succ, neg_succ]
    simp only [cvs]
    rw [zc_eq (by omega) h2]
    generalize zc l k = z at *
    generalize cvs l k = s at *
    obtain ⟨c, d⟩ := s
    simp only at ih
    generalize pos l k = P at *
    generalize neg' l k = N at *
    rcases ih with ⟨rfl, h1, h2⟩ | ⟨rfl, ⟨rfl, h1, h2⟩ | ⟨rfl, h1, h2⟩ | ⟨rfl, h1, h2⟩⟩ <;> rcases Int.lt_trichotomy z 0 with h | h | h
    all_goals
      first
        | (have g1 : ¬ 0 < z := by omega
           have g2 : ¬ z < 0 := by omega
           simp [cstep, h1, h2, g1, g2]; done)
        | (have g1 : ¬ 0 < z := by omega
           have g2 : z < 0 := by omega
           simp [cstep, h1, h2, g1, g2]; done)
        | (have g1 : 0 < z := by omega
           have g2 : ¬ z < 0 := by omega
           simp [cstep, h1, h2, g1, g2]; done)
theorem cvs_conv (l : List (Int × Int)) (h2 : 2 ≤ l.length) : (cvs l l.length).1 = true ↔ pos l l.length ∧ neg' l l.length := by
  have h := cvs_iff l h2 l.length (Nat.le_refl _)
  rcases h with ⟨h1, h2, h3⟩ | ⟨h1, ⟨-, h2, h3⟩ | ⟨-, h2, h3⟩ | ⟨-, h2, h3⟩⟩ <;> simp [h1, h2, h3]
theorem conv_same {l m : List (Int × Int)} (h2 : 2 ≤ l.length) (hm : m.length = l.length) (h : ∀ i, i < l.length → ∃ j, j < l.length ∧ zc m j = zc l i) (h' : ∀ i, i < l.length → ∃ j, j < l.length ∧ zc l j = zc m i) : (cvs m m.length).1 = (cvs l l.length).1 := by
  rw [Bool.eq_iff_iff, cvs_conv l h2, cvs_conv m (by omega), hm]
  constructor
  · rintro ⟨⟨i, h1, h2⟩, ⟨i', h3, h4⟩⟩
    obtain ⟨j, h5, h6⟩ := h' i h1
    obtain ⟨j', h7, h8⟩ := h' i' h3
    exact ⟨⟨j, h5, by omega⟩, ⟨j', h7, by omega⟩⟩
  · rintro ⟨⟨i, h1, h2⟩, ⟨i', h3, h4⟩⟩
    obtain ⟨j, h5, h6⟩ := h i h1
    obtain ⟨j', h7, h8⟩ := h i' h3
    exact ⟨⟨j, h5, by omega⟩, ⟨j', h7, by omega⟩⟩
theorem conv_neg {l m : List (Int × Int)} (h2 : 2 ≤ l.length) (hm : m.length = l.length) (h : ∀ i, i < l.length → ∃ j, j < l.length ∧ zc m j = - zc l i) (h' : ∀ i, i < l.length → ∃ j, j < l.length ∧ zc l j = - zc m i) : (cvs m m.length).1 = (cvs l l.length).1 := by
  rw [Bool.eq_iff_iff, cvs_conv l h2, cvs_conv m (by omega), hm]
  constructor
  · rintro ⟨⟨i, h1, h2⟩, ⟨i', h3, h4⟩⟩
    obtain ⟨j, h5, h6⟩ := h' i h1
    obtain ⟨j', h7, h8⟩ := h' i' h3
    exact ⟨⟨j', h7, by omega⟩, ⟨j, h5, by omega⟩⟩
  · rintro ⟨⟨i, h1, h2⟩, ⟨i', h3, h4⟩⟩
    obtain ⟨j, h5, h6⟩ := h i h1
    obtain ⟨j', h7, h8⟩ := h i' h3
    exact ⟨⟨j', h7, by omega⟩, ⟨j, h5, by omega⟩⟩
/-! ## the area -/
def area (l : List (Int × Int)) : Nat → Int
  | 0 => 0
  | k + 1 => area l k + ((at' l k).1 * (nx1 l k).2 - (nx1 l k).1 * (at' l k).2)
theorem cws_step (l : List (Int × Int)) : ∀ k, k < l.length → cws l k = -area l k + ((at' l k).1 * (at' l k).2 - (at' l 0).1 * (at' l 0).2) := by
  intro k
  induction k with
  | zero => intro _; simp [cws, area]
  | succ k ih =>
    intro hk
    have e : nx1 l k = at' l (k + 1) := by unfold nx1; rw [if_neg (by omega)]
    simp only [cws, area, ih (by omega), e, twice]
    grind
theorem cws_area (l : List (Int × Int)) (hl : 0 < l.length) : cws l l.length = -area l l.length := by
  obtain ⟨n, hn⟩ : ∃ n, l.length = n + 1 := ⟨l.length - 1, by omega⟩
  rw [hn]
  have e : nx1 l n = at' l 0 := by unfold nx1; rw [if_pos (by omega)]
  simp only [cws, area, cws_step l n (by omega), e, twice]
  grind
/-! ## sums around -/
def sumN (F : Nat → Int) : Nat → Int
  | 0 => 0
  | k + 1 => sumN F k + F k
theorem sumN_congr {F G : Nat → Int} : ∀ n, (∀ k, k < n → F k = G k) → sumN F n = sumN G n := by
  intro n
  induction n with
  | zero => intro _; rfl
  | succ n ih => intro h; simp only [sumN]; rw [ih (fun k hk => h k (by omega)), h n (by omega)]
theorem sumN_shift1 (F : Nat → Int) : ∀ n, sumN (fun k => F (k + 1)) n = sumN F n - F 0 + F n := by
  intro n
  induction n with
  | zero => simp only [sumN]; omega
  | succ n ih => simp only [sumN, ih]; omega
theorem sumN_shift (F : Nat → Int) (n : Nat) (hF : ∀ k, F (k + n) = F k) : ∀ a, sumN (fun k => F (a + k)) n = sumN F n := by
  intro a
  induction a with
  | zero => simp
  | succ a ih =>
    have h := sumN_shift1 (fun k => F (a + k)) n
    have e := hF a
    simp only [Nat.add_zero] at h
    have : (fun k => F (a + 1 + k)) = fun k => F (a + (k + 1)) := by funext k; congr 1; omega
    rw [this, h, ih, e]
    omega
theorem sumN_front (F : Nat → Int) : ∀ n, sumN F (n + 1) = F 0 + sumN (fun k => F (k + 1)) n := by
  intro n
  rw [sumN_shift1]
  simp only [sumN]; omega
theorem sumN_rev (F : Nat → Int) : ∀ n, sumN (fun k => F (n - 1 - k)) n = sumN F n := by
  intro n
  induction n with
  | zero => rfl
  | succ n ih =>
    rw [sumN_front]
    simp only [sumN]
    rw [show n + 1 - 1 - 0 = n by omega]
    rw [sumN_congr (G := fun k => F (n - 1 - k)) n (fun k hk => by congr 1; omega), ih]
    omega
theorem sumN_neg (F : Nat → Int) : ∀ n, sumN (fun k => - F k) n = - sumN F n := by
  intro n
  induction n with
  | zero => rfl
  | succ n ih => simp only [sumN, ih]; omega
theorem cws_sum (l : List (Int × Int)) : ∀ k, k ≤ l.length → cws l k = sumN (fun i => twice (cyc l i) (cyc l (i + 1))) k := by
  intro k
  induction k with
  | zero => intro _; rfl
  | succ k ih => intro hk; simp only [cws, sumN, ih (by omega), cyc_at (show k < l.length by omega), cyc_nx1 (show k < l.length by omega)]
/-! ## another beginning -/
def bgI (n a : Nat) (back : Bool) (i : Nat) : Nat := if back then (a + n - i) % n else (a + i) % n
def bgn (l : List (Int × Int)) (a : Nat) (back : Bool) : List (Int × Int) := (List.range l.length).map fun i => at' l (bgI l.length a back i)
theorem bgn_len (l : List (Int × Int)) (a : Nat) (back : Bool) : (bgn l a back).length = l.length := by simp [bgn]
theorem bgn_at (l : List (Int × Int)) (a : Nat) (back : Bool) (i : Nat) (h : i < l.length) : at' (bgn l a back) i = at' l (bgI l.length a back i) := by
  unfold bgn at'
  simp [List.getD, h]
theorem bgn_cyc (l : List (Int × Int)) (a : Nat) (h : 0 < l.length) (i : Nat) : cyc (bgn l a false) i = cyc l (a + i) := by
  unfold cyc
  rw [bgn_len, bgn_at _ _ _ _ (Nat.mod_lt _ h)]
  simp [bgI]
theorem bgn_cycB (l : List (Int × Int)) (a : Nat) (h : 0 < l.length) (i : Nat) (hi : i ≤ 2 * l.length) : cyc (bgn l a true) i = cyc l (a + 2 * l.length - i) := by
  unfold cyc
  rw [bgn_len, bgn_at _ _ _ _ (Nat.mod_lt _ h)]
  simp only [bgI, if_true]
  congr 1
  have h1 := Nat.mod_lt i h
  have h2 := Nat.div_add_mod i l.length
  generalize i / l.length = q at *
  generalize i % l.length = r at *
  generalize l.length = n at *
  have hq : q ≤ 2 := by
    rcases Nat.lt_or_ge 2 q with h | h
    · have := Nat.mul_le_mul_left n h; omega
    · exact h
  have : q = 0 ∨ q = 1 ∨ q = 2 := by omega
  rcases this with rfl | rfl | rfl
  · rw [show a + 2 * n - i = (a + n - r) + n from by omega, Nat.add_mod_right]
  · rw [show a + 2 * n - i = (a + n - r) from by omega]
  · have : r = 0 := by omega
    rw [show a + 2 * n - i = a from by omega, this, Nat.sub_zero, Nat.add_mod_right]
theorem bgn_conv (l : List (Int × Int)) (a : Nat) (h2 : 2 ≤ l.length) : (cvs (bgn l a false) (bgn l a false).length).1 = (cvs l l.length).1 := by
  have hz : ∀ i, zc (bgn l a false) i = zc l (a + i) := by
    intro i; unfold zc; simp only [bgn_cyc l a (by omega)]; rfl
  refine conv_same h2 (bgn_len _ _ _) (fun i hi => ?_) (fun i hi => ?_)
  · refine ⟨(i + l.length - a % l.length) % l.length, Nat.mod_lt _ (by omega), ?_⟩
    rw [hz, ← zc_mod, Nat.add_mod_mod]
    have h1 := Nat.mod_lt a (show 0 < l.length by omega)
    have h3 := Nat.div_add_mod a l.length
    rw [show a + (i + l.length - a % l.length) = i + l.length + l.length * (a / l.length) from by omega, Nat.add_mul_mod_self_left, Nat.add_mod_right, zc_mod]
  · exact ⟨(a + i) % l.length, Nat.mod_lt _ (by omega), by rw [zc_mod, hz]⟩
theorem zcr_rev (a b c : Int × Int) : zcr c b a = - zcr a b c := by unfold zcr; grind
theorem bgn_convB (l : List (Int × Int)) (a : Nat) (h2 : 2 ≤ l.length) : (cvs (bgn l a true) (bgn l a true).length).1 = (cvs l l.length).1 := by
  have hz : ∀ i, i < l.length → zc (bgn l a true) i = - zc l (a + 2 * l.length - i - 2) := by
    intro i hi
    unfold zc
    rw [bgn_cycB l a (by omega) _ (by omega), bgn_cycB l a (by omega) _ (by omega), bgn_cycB l a (by omega) _ (by omega), ← zcr_rev]
    rw [show a + 2 * l.length - i = a + 2 * l.length - i - 2 + 2 from by omega, show a + 2 * l.length - (i + 1) = a + 2 * l.length - i - 2 + 1 from by omega, show a + 2 * l.length - (i + 2) = a + 2 * l.length - i - 2 from by omega]
    rfl
  refine conv_neg h2 (bgn_len _ _ _) (fun i hi => ?_) (fun i hi => ?_)
  · have h1 := Nat.mod_lt a (show 0 < l.length by omega)
    have h3 := Nat.div_add_mod a l.length
    have h4 := Nat.mod_lt (a % l.length + 2 * l.length - 2 - i) (show 0 < l.length by omega)
    have h5 := Nat.div_add_mod (a % l.length + 2 * l.length - 2 - i) l.length
    refine ⟨(a % l.length + 2 * l.length - 2 - i) % l.length, h4, ?_⟩
    rw [hz _ h4, ← zc_mod l (a + 2 * l.length - _ - 2)]
    rw [show a + 2 * l.length - (a % l.length + 2 * l.length - 2 - i) % l.length - 2 = i + l.length * (a / l.length) + l.length * ((a % l.length + 2 * l.length - 2 - i) / l.length) from by omega, Nat.add_mul_mod_self_left, Nat.add_mul_mod_self_left, zc_mod]
  · exact ⟨(a + 2 * l.length - i - 2) % l.length, Nat.mod_lt _ (by omega), by rw [zc_mod, hz i hi]; omega⟩
theorem bgn_cws (l : List (Int × Int)) (a : Nat) (h : 0 < l.length) : cws (bgn l a false) l.length = cws l l.length := by
  rw [cws_sum _ _ (by rw [bgn_len]; omega), cws_sum _ _ (Nat.le_refl _)]
  have e : (fun i => twice (cyc (bgn l a false) i) (cyc (bgn l a false) (i + 1))) = fun i => (fun i => twice (cyc l i) (cyc l (i + 1))) (a + i) := by
    funext i; simp only [bgn_cyc l a h]; rfl
  rw [e]
  refine sumN_shift (fun i => twice (cyc l i) (cyc l (i + 1))) _ (fun k => ?_) a
  show twice _ (cyc l (k + l.length + 1)) = _
  rw [cyc_add, show k + l.length + 1 = k + 1 + l.length from by omega, cyc_add]
theorem twice_rev (a b : Int × Int) : twice b a = - twice a b := by unfold twice; grind
theorem bgn_cwsB (l : List (Int × Int)) (a : Nat) (h : 0 < l.length) : cws (bgn l a true) l.length = - cws l l.length := by
  rw [cws_sum _ _ (by rw [bgn_len]; omega), cws_sum _ _ (Nat.le_refl _), ← sumN_neg]
  have e : ∀ i, i < l.length → twice (cyc (bgn l a true) i) (cyc (bgn l a true) (i + 1)) = - (fun i => (fun i => twice (cyc l i) (cyc l (i + 1))) (a + l.length + i)) (l.length - 1 - i) := by
    intro i hi
    simp only
    rw [bgn_cycB l a h _ (by omega), bgn_cycB l a h _ (by omega), ← twice_rev]
    rw [show a + l.length + (l.length - 1 - i) + 1 = a + 2 * l.length - i from by omega, show a + l.length + (l.length - 1 - i) = a + 2 * l.length - (i + 1) from by omega]
  rw [sumN_congr _ e, sumN_neg, sumN_neg]
  congr 1
  rw [sumN_rev (fun i => (fun i => twice (cyc l i) (cyc l (i + 1))) (a + l.length + i))]
  refine sumN_shift (fun i => twice (cyc l i) (cyc l (i + 1))) _ (fun k => ?_) _
  show twice _ (cyc l (k + l.length + 1)) = _
  rw [cyc_add, show k + l.length + 1 = k + 1 + l.length from by omega, cyc_add]
theorem bgn_mem (l : List (Int × Int)) (a : Nat) (back : Bool) (h : 0 < l.length) (p : Int × Int) : p ∈ bgn l a back ↔ p ∈ l := by
  have hm : ∀ p, p ∈ l ↔ ∃ i, i < l.length ∧ at' l i = p := by
    intro p
    rw [List.mem_iff_getElem?]
    constructor
    · rintro ⟨i, hi⟩
      rcases Nat.lt_or_ge i l.length with h | h
      · rw [at_get h] at hi; exact ⟨i, h, Option.some.inj hi⟩
      · rw [List.getElem?_eq_none h] at hi; cases hi
    · rintro ⟨i, hi, rfl⟩; exact ⟨i, at_get hi⟩
  constructor
  · intro hp
    simp only [bgn, List.mem_map, List.mem_range] at hp
    obtain ⟨i, hi, rfl⟩ := hp
    rw [hm]
    refine ⟨_, ?_, rfl⟩
    unfold bgI; split <;> exact Nat.mod_lt _ h
  · intro hp
    obtain ⟨i, hi, rfl⟩ := (hm p).1 hp
    simp only [bgn, List.mem_map, List.mem_range]
    have h1 := Nat.mod_lt a h
    have h3 := Nat.div_add_mod a l.length
    cases back with
    | false =>
      refine ⟨(i + l.length - a % l.length) % l.length, Nat.mod_lt _ h, ?_⟩
      simp only [bgI, Bool.false_eq_true, if_false]
      rw [Nat.add_mod_mod, show a + (i + l.length - a % l.length) = i + l.length + l.length * (a / l.length) from by omega, Nat.add_mul_mod_self_left, Nat.add_mod_right, Nat.mod_eq_of_lt hi]
    | true =>
      have h4 := Nat.mod_lt (a % l.length + l.length - i) h
      have h5 := Nat.div_add_mod (a % l.length + l.length - i) l.length
      refine ⟨(a % l.length + l.length - i) % l.length, h4, ?_⟩
      simp only [bgI, if_true]
      congr 1
      have hq : (a % l.length + l.length - i) / l.length ≤ 1 := by
        rcases Nat.lt_or_ge 1 ((a % l.length + l.length - i) / l.length) with h | h
        · have := Nat.mul_le_mul_left l.length h; omega
        · exact h
      generalize (a % l.length + l.length - i) / l.length = q at *
      generalize (a % l.length + l.length - i) % l.length = r at *
      have hq' : q = 0 ∨ q = 1 := by omega
      rcases hq' with rfl | rfl
      · rw [show a + l.length - r = i + l.length * (a / l.length) from by omega, Nat.add_mul_mod_self_left, Nat.mod_eq_of_lt hi]
      · rw [show a + l.length - r = i + l.length * (a / l.length) + l.length from by omega, Nat.add_mod_right, Nat.add_mul_mod_self_left, Nat.mod_eq_of_lt hi]
/-! ## the rectangle -/
theorem bxs_in (l : List (Int × Int)) : ∀ b : Int × Int × Int × Int, (bxs l b).1 ≤ b.1 ∧ (bxs l b).2.1 ≤ b.2.1 ∧ b.2.2.1 ≤ (bxs l b).2.2.1 ∧ b.2.2.2 ≤ (bxs l b).2.2.2 ∧ ∀ p ∈ l, (bxs l b).1 ≤ p.1 ∧ (bxs l b).2.1 ≤ p.2 ∧ p.1 ≤ (bxs l b).2.2.1 ∧ p.2 ≤ (bxs l b).2.2.2 := by
  induction l with
  | nil => intro b; simp [bxs]
  | cons q l ih =>
    intro b
    have h := ih (min b.1 q.1, min b.2.1 q.2, max b.2.2.1 q.1, max b.2.2.2 q.2)
    have e : bxs (q :: l) b = bxs l (min b.1 q.1, min b.2.1 q.2, max b.2.2.1 q.1, max b.2.2.2 q.2) := rfl
    rw [e]
    obtain ⟨h1, h2, h3, h4, h5⟩ := h
    simp only at h1 h2 h3 h4
    refine ⟨by omega, by omega, by omega, by omega, fun p hp => ?_⟩
    rcases List.mem_cons.1 hp with rfl | hp
    · omega
    · exact h5 p hp
theorem bxs_at (l : List (Int × Int)) : ∀ b : Int × Int × Int × Int, ((bxs l b).1 = b.1 ∨ ∃ p ∈ l, p.1 = (bxs l b).1) ∧ ((bxs l b).2.1 = b.2.1 ∨ ∃ p ∈ l, p.2 = (bxs l b).2.1) ∧ ((bxs l b).2.2.1 = b.2.2.1 ∨ ∃ p ∈ l, p.1 = (bxs l b).2.2.1) ∧ ((bxs l b).2.2.2 = b.2.2.2 ∨ ∃ p ∈ l, p.2 = (bxs l b).2.2.2) := by
  induction l with
  | nil => intro b; simp [bxs]
  | cons q l ih =>
    intro b
    have h := ih (min b.1 q.1, min b.2.1 q.2, max b.2.2.1 q.1, max b.2.2.2 q.2)
    have e : bxs (q :: l) b = bxs l (min b.1 q.1, min b.2.1 q.2, max b.2.2.1 q.1, max b.2.2.2 q.2) := rfl
    rw [e]
    generalize bxs l (min b.1 q.1, min b.2.1 q.2, max b.2.2.1 q.1, max b.2.2.2 q.2) = r at *
    obtain ⟨h1, h2, h3, h4⟩ := h
    simp only at h1 h2 h3 h4
    refine ⟨?_, ?_, ?_, ?_⟩
    · rcases h1 with h | ⟨p, hp, h⟩
      · rcases Int.le_total b.1 q.1 with h' | h'
        · exact .inl (by omega)
        · exact .inr ⟨q, by simp, by omega⟩
      · exact .inr ⟨p, by simp [hp], h⟩
    · rcases h2 with h | ⟨p, hp, h⟩
      · rcases Int.le_total b.2.1 q.2 with h' | h'
        · exact .inl (by omega)
        · exact .inr ⟨q, by simp, by omega⟩
      · exact .inr ⟨p, by simp [hp], h⟩
    · rcases h3 with h | ⟨p, hp, h⟩
      · rcases Int.le_total b.2.2.1 q.1 with h' | h'
        · exact .inr ⟨q, by simp, by omega⟩
        · exact .inl (by omega)
      · exact .inr ⟨p, by simp [hp], h⟩
    · rcases h4 with h | ⟨p, hp, h⟩
      · rcases Int.le_total b.2.2.2 q.2 with h' | h'
        · exact .inr ⟨q, by simp, by omega⟩
        · exact .inl (by omega)
      · exact .inr ⟨p, by simp [hp], h⟩
theorem box_spec (l : List (Int × Int)) (h : 0 < l.length) : (∀ p ∈ l, (box l).1 ≤ p.1 ∧ (box l).2.1 ≤ p.2 ∧ p.1 ≤ (box l).2.2.1 ∧ p.2 ≤ (box l).2.2.2) ∧ (∃ p ∈ l, p.1 = (box l).1) ∧ (∃ p ∈ l, p.2 = (box l).2.1) ∧ (∃ p ∈ l, p.1 = (box l).2.2.1) ∧ (∃ p ∈ l, p.2 = (box l).2.2.2) := by
  have m0 : at' l 0 ∈ l := List.mem_of_getElem? (at_get h)
  obtain ⟨-, -, -, -, h1⟩ := bxs_in l ((at' l 0).1, (at' l 0).2, (at' l 0).1, (at' l 0).2)
  obtain ⟨g1, g2, g3, g4⟩ := bxs_at l ((at' l 0).1, (at' l 0).2, (at' l 0).1, (at' l 0).2)
  refine ⟨h1, ?_, ?_, ?_, ?_⟩
  · exact g1.elim (fun h => ⟨_, m0, h.symm⟩) id
  · exact g2.elim (fun h => ⟨_, m0, h.symm⟩) id
  · exact g3.elim (fun h => ⟨_, m0, h.symm⟩) id
  · exact g4.elim (fun h => ⟨_, m0, h.symm⟩) id
theorem box_mem {l m : List (Int × Int)} (hl : 0 < l.length) (hm : 0 < m.length) (h : ∀ p, p ∈ m ↔ p ∈ l) : box m = box l := by
  obtain ⟨a, ⟨p1, a1, b1⟩, ⟨p2, a2, b2⟩, ⟨p3, a3, b3⟩, ⟨p4, a4, b4⟩⟩ := box_spec l hl
  obtain ⟨c, ⟨q1, c1, d1⟩, ⟨q2, c2, d2⟩, ⟨q3, c3, d3⟩, ⟨q4, c4, d4⟩⟩ := box_spec m hm
  have e1 := a q1 ((h _).1 c1); have e2 := a q2 ((h _).1 c2); have e3 := a q3 ((h _).1 c3); have e4 := a q4 ((h _).1 c4)
  have f1 := c p1 ((h _).2 a1); have f2 := c p2 ((h _).2 a2); have f3 := c p3 ((h _).2 a3); have f4 := c p4 ((h _).2 a4)
  generalize box l = x at *
  generalize box m = y at *
  obtain ⟨x1, x2, x3, x4⟩ := x
  obtain ⟨y1, y2, y3, y4⟩ := y
  simp only [Prod.mk.injEq] at *
  omega
theorem bgn_box (l : List (Int × Int)) (a : Nat) (back : Bool) (h : 0 < l.length) : box (bgn l a back) = box l :=
  box_mem h (by rw [bgn_len]; exact h) (fun p => bgn_mem l a back h p)
end PF
