import Derived.Test.YtlpibeloedfbdaaGreatPp
import Derived.Test.YtlpibeloedfbdaaGreatPr
import Derived.Test.YtlpibeloedfbdaaGreatJb
import Derived.Test.YtlpibeloedfbdaaGreatFgp
import Derived.Test.YtlpibeloedfbdaaGreatBlk
import Derived.Test.YtlpibeloedfbdaaGreatQV
import Derived.Laws.Externs
import Derived.StillTailTactics
import Derived.Lib.EndianBits
import Derived.Test.YtlpibeloedfbdaaGreatQS
set_option linter.unusedSimpArgs false
set_option linter.unusedVariables false
/-! The plain law of rings: turned, bgn elsewhere. -/
namespace PF
open Go Go.RowKit JR
def box (l : List (Int × Int)) : Int × Int × Int × Int := bxs l ((at' l 0).1, (at' l 0).2, (at' l 0).1, (at' l 0).2)
theorem SlQ.keep' {l h : Nat} {w w' : World} {v : Value} {L : List (Int × Int)} (hk : ∀ b, l ≤ b → b < h → b < w.heap.size → w'.heap[b]? = w.heap[b]?) (H : SlQ l h w v L) : SlQ l h w' v L := by
  obtain ⟨A, c, hv, hh⟩ := H
  refine ⟨A, c, hv, fun k p hp => ?_⟩
  obtain ⟨b, h1, h4, h5, h2, h3⟩ := hh k p hp
  have hb := World.block_lt_of_cell? w _ h2
  exact ⟨b, h1, h4, h5, (World.cell?_of_block (hk b h4 h5 hb)).trans h2, (World.cell?_of_block (hk b h4 h5 hb)).trans h3⟩
theorem SlQ.below {l h : Nat} {w w' : World} {v : Value} {L : List (Int × Int)} (H : SlQ l h w v L) (hb : Below w.heap.size w w') : SlQ l h w' v L :=
  H.keep' fun b _ _ h3 => hb.block b h3
theorem SlQ.wide {l h l' h' : Nat} {w : World} {v : Value} {L : List (Int × Int)} (H : SlQ l h w v L) (h1 : l' ≤ l) (h2 : h ≤ h') : SlQ l' h' w v L := by
  obtain ⟨A, c, hv, hh⟩ := H
  refine ⟨A, c, hv, fun k p hp => ?_⟩
  obtain ⟨b, h1, h4, h5, h2, h3⟩ := hh k p hp
  exact ⟨b, h1, by omega, by omega, h2, h3⟩
theorem SlQ.len {l h : Nat} {w : World} {v : Value} {L : List (Int × Int)} (H : SlQ l h w v L) : ∃ A c, v = .slice A L.length c := by
  obtain ⟨A, c, hv, _⟩ := H
  exact ⟨A, c, hv⟩
/-! ## cyclic -/
def cyc (l : List (Int × Int)) (i : Nat) : Int × Int := at' l (i % l.length)
theorem cyc_at {l : List (Int × Int)} {k : Nat} (h : k < l.length) : cyc l k = at' l k := by unfold cyc; rw [Nat.mod_eq_of_lt h]
theorem cyc_nx1 {l : List (Int × Int)} {k : Nat} (h : k < l.length) : cyc l (k + 1) = nx1 l k := by
  unfold cyc nx1
  split
  · rename_i e; rw [e, Nat.mod_self]
  · rw [Nat.mod_eq_of_lt (by omega)]
theorem cyc_nx2 {l : List (Int × Int)} {k : Nat} (h : k < l.length) (h2 : 2 ≤ l.length) : cyc l (k + 2) = nx2 l k := by
  unfold cyc nx2
  split
  · rename_i e; rw [show k + 2 = 1 + l.length from by omega, Nat.add_mod_right, Nat.mod_eq_of_lt (by omega)]
  · split
    · rename_i e; rw [e, Nat.mod_self]
    · rw [Nat.mod_eq_of_lt (by omega)]
def zc (l : List (Int × Int)) (k : Nat) : Int := zcr (cyc l k) (cyc l (k + 1)) (cyc l (k + 2))
theorem zc_eq {l : List (Int × Int)} {k : Nat} (h : k < l.length) (h2 : 2 ≤ l.length) : zcr (at' l k) (nx1 l k) (nx2 l k) = zc l k := by
  unfold zc; rw [cyc_at h, cyc_nx1 h, cyc_nx2 h h2]
theorem cyc_add (l : List (Int × Int)) (k : Nat) : cyc l (k + l.length) = cyc l k := by unfold cyc; rw [Nat.add_mod_right]
theorem cyc_mod (l : List (Int × Int)) (k : Nat) : cyc l (k % l.length) = cyc l k := by unfold cyc; rw [Nat.mod_mod]
theorem cyc_add_mod (l : List (Int × Int)) (k j : Nat) : cyc l (k % l.length + j) = cyc l (k + j) := by unfold cyc; rw [Nat.mod_add_mod]
theorem zc_mod (l : List (Int × Int)) (k : Nat) : zc l (k % l.length) = zc l k := by
  unfold zc; rw [cyc_mod, cyc_add_mod, cyc_add_mod]
/-! ## convex: no two turns of different sides -/
def pos (l : List (Int × Int)) (k : Nat) : Prop := ∃ i, i < k ∧ 0 < zc l i
def neg' (l : List (Int × Int)) (k : Nat) : Prop := ∃ i, i < k ∧ zc l i < 0
theorem pos_succ (l : List (Int × Int)) (k : Nat) : pos l (k + 1) ↔ pos l k ∨ 0 < zc l k := by
  constructor
  · rintro ⟨i, h1, h2⟩
    rcases Nat.lt_or_ge i k with h | h
    · exact .inl ⟨i, h, h2⟩
    · have : i = k := by omega
      subst this; exact .inr h2
  · rintro (⟨i, h1, h2⟩ | h)
    · exact ⟨i, by omega, h2⟩
    · exact ⟨k, by omega, h⟩
theorem neg_succ (l : List (Int × Int)) (k : Nat) : neg' l (k + 1) ↔ neg' l k ∨ zc l k < 0 := by
  constructor
  · rintro ⟨i, h1, h2⟩
    rcases Nat.lt_or_ge i k with h | h
    · exact .inl ⟨i, h, h2⟩
    · have : i = k := by omega
      subst this; exact .inr h2
  · rintro (⟨i, h1, h2⟩ | h)
    · exact ⟨i, by omega, h2⟩
    · exact ⟨k, by omega, h⟩
theorem cvs_iff (l : List (Int × Int)) (h2 : 2 ≤ l.length) : ∀ k, k ≤ l.length →
    ((cvs l k).1 = true ∧ pos l k ∧ neg' l k) ∨ ((cvs l k).1 = false ∧ (((cvs l k).2 = 0 ∧ ¬ pos l k ∧ ¬ neg' l k) ∨ ((cvs l k).2 = 1 ∧ pos l k ∧ ¬ neg' l k) ∨ ((cvs l k).2 = -1 ∧ ¬ pos l k ∧ neg' l k))) := by
  intro k
  induction k with
  | zero =>
    intro _
    refine .inr ⟨rfl, .inl ⟨rfl, ?_, ?_⟩⟩
    · rintro ⟨i, h, _⟩; omega
    · rintro ⟨i, h, _⟩; omega
  | succ k ih =>
    intro hk
    have ih := ih (by omega)
    rw [pos_succ, neg_succ]
    simp only [cvs]
    rw [zc_eq (by omega) h2]
    generalize zc l k = z at *
    generalize cvs l k = s at *
    obtain ⟨c, d⟩ := s
    simp only at ih
    generalize pos l k = P at *
    generalize neg' l k = N at *
    rcases ih with ⟨rfl, h1, h2⟩ | ⟨rfl, ⟨rfl, h1, h2⟩ | ⟨rfl, h1, h2⟩ | ⟨rfl, h1, h2⟩⟩ <;> rcases Int.lt_trichotomy z 0 with h | h | h
    all_goals
      first
        | (have g1 : ¬ 0 < z := by omega
           have g2 : ¬ z < 0 := by omega
           simp [cstep, h1, h2, g1, g2]; done)
        | (have g1 : ¬ 0 < z := by omega
           have g2 : z < 0 := by omega
           simp [cstep, h1, h2, g1, g2]; done)
        | (have g1 : 0 < z := by omega
           have g2 : ¬ z < 0 := by omega
           simp [cstep, h1, h2, g1, g2]; done)
theorem cvs_conv (l : List (Int × Int)) (h2 : 2 ≤ l.length) : (cvs l l.length).1 = true ↔ pos l l.length ∧ neg' l l.length := by
  have h := cvs_iff l h2 l.length (Nat.le_refl _)
  rcases h with ⟨h1, h2, h3⟩ | ⟨h1, ⟨-, h2, h3⟩ | ⟨-, h2, h3⟩ | ⟨-, h2, h3⟩⟩ <;> simp [h1, h2, h3]
theorem conv_same {l m : List (Int × Int)} (h2 : 2 ≤ l.length) (hm : m.length = l.length) (h : ∀ i, i < l.length → ∃ j, j < l.length ∧ zc m j = zc l i) (h' : ∀ i, i < l.length → ∃ j, j < l.length ∧ zc l j = zc m i) : (cvs m m.length).1 = (cvs l l.length).1 := by
  rw [Bool.eq_iff_iff, cvs_conv l h2, cvs_conv m (by omega), hm]
  constructor
  · rintro ⟨⟨i, h1, h2⟩, ⟨i', h3, h4⟩⟩
    obtain ⟨j, h5, h6⟩ := h' i h1
    obtain ⟨j', h7, h8⟩ := h' i' h3
    exact ⟨⟨j, h5, by omega⟩, ⟨j', h7, by omega⟩⟩
  · rintro ⟨⟨i, h1, h2⟩, ⟨i', h3, h4⟩⟩
    obtain ⟨j, h5, h6⟩ := h i h1
    obtain ⟨j', h7, h8⟩ := h i' h3
    exact ⟨⟨j, h5, by omega⟩, ⟨j', h7, by omega⟩⟩
theorem conv_neg {l m : List (Int × Int)} (h2 : 2 ≤ l.length) (hm : m.length = l.length) (h : ∀ i, i < l.length → ∃ j, j < l.length ∧ zc m j = - zc l i) (h' : ∀ i, i < l.length → ∃ j, j < l.length ∧ zc l j = - zc m i) : (cvs m m.length).1 = (cvs l l.length).1 := by
  rw [Bool.eq_iff_iff, cvs_conv l h2, cvs_conv m (by omega), hm]
  constructor
  · rintro ⟨⟨i, h1, h2⟩, ⟨i', h3, h4⟩⟩
    obtain ⟨j, h5, h6⟩ := h' i h1
    obtain ⟨j', h7, h8⟩ := h' i' h3
    exact ⟨⟨j', h7, by omega⟩, ⟨j, h5, by omega⟩⟩
  · rintro ⟨⟨i, h1, h2⟩, ⟨i', h3, h4⟩⟩
    obtain ⟨j, h5, h6⟩ := h i h1
    obtain ⟨j', h7, h8⟩ := h i' h3
    exact ⟨⟨j', h7, by omega⟩, ⟨j, h5, by omega⟩⟩
/-! ## the area -/
/-! ## sums around -/
/-! ## another beginning -/
def bgI (n a : Nat) (back : Bool) (i : Nat) : Nat := if back then (a + n - i) % n else (a + i) % n
def bgn (l : List (Int × Int)) (a : Nat) (back : Bool) : List (Int × Int) := (List.range l.length).map fun i => at' l (bgI l.length a back i)
theorem bgn_len (l : List (Int × Int)) (a : Nat) (back : Bool) : (bgn l a back).length = l.length := by simp [bgn]
theorem bgn_at (l : List (Int × Int)) (a : Nat) (back : Bool) (i : Nat) (h : i < l.length) : at' (bgn l a back) i = at' l (bgI l.length a back i) := by
  unfold bgn at'
  simp [List.getD, h]
theorem bgn_cyc (l : List (Int × Int)) (a : Nat) (h : 0 < l.length) (i : Nat) : cyc (bgn l a false) i = cyc l (a + i) := by
  unfold cyc
  rw [bgn_len, bgn_at _ _ _ _ (Nat.mod_lt _ h)]
  simp [bgI]
theorem bgn_cycB (l : List (Int × Int)) (a : Nat) (h : 0 < l.length) (i : Nat) (hi : i ≤ 2 * l.length) : cyc (bgn l a true) i = cyc l (a + 2 * l.length - i) := by
  unfold cyc
  rw [bgn_len, bgn_at _ _ _ _ (Nat.mod_lt _ h)]
  simp only [bgI, if_true]
  congr 1
  have h1 := Nat.mod_lt i h
  have h2 := Nat.div_add_mod i l.length
  generalize i / l.length = q at *
  generalize i % l.length = r at *
  generalize l.length = n at *
  have hq : q ≤ 2 := by
    rcases Nat.lt_or_ge 2 q with h | h
    · have := Nat.mul_le_mul_left n h; omega
    · exact h
  have : q = 0 ∨ q = 1 ∨ q = 2 := by omega
  rcases this with rfl | rfl | rfl
  · rw [show a + 2 * n - i = (a + n - r) + n from by omega, Nat.add_mod_right]
  · rw [show a + 2 * n - i = (a + n - r) from by omega]
  · have : r = 0 := by omega
    rw [show a + 2 * n - i = a from by omega, this, Nat.sub_zero, Nat.add_mod_right]
theorem bgn_conv (l : List (Int × Int)) (a : Nat) (h2 : 2 ≤ l.length) : (cvs (bgn l a false) (bgn l a false).length).1 = (cvs l l.length).1 := by
  have hz : ∀ i, zc (bgn l a false) i = zc l (a + i) := by
    intro i; unfold zc; simp only [bgn_cyc l a (by omega)]; rfl
  refine conv_same h2 (bgn_len _ _ _) (fun i hi => ?_) (fun i hi => ?_)
  · refine ⟨(i + l.length - a % l.length) % l.length, Nat.mod_lt _ (by omega), ?_⟩
    rw [hz, ← zc_mod, Nat.add_mod_mod]
    have h1 := Nat.mod_lt a (show 0 < l.length by omega)
    have h3 := Nat.div_add_mod a l.length
    rw [show a + (i + l.length - a % l.length) = i + l.length + l.length * (a / l.length) from by omega, Nat.add_mul_mod_self_left, Nat.add_mod_right, zc_mod]
  · exact ⟨(a + i) % l.length, Nat.mod_lt _ (by omega), by rw [zc_mod, hz]⟩
theorem zcr_rev (a b c : Int × Int) : zcr c b a = - zcr a b c := by unfold zcr; grind
theorem bgn_convB (l : List (Int × Int)) (a : Nat) (h2 : 2 ≤ l.length) : (cvs (bgn l a true) (bgn l a true).length).1 = (cvs l l.length).1 := by
  have hz : ∀ i, i < l.length → zc (bgn l a true) i = - zc l (a + 2 * l.length - i - 2) := by
    intro i hi
    unfold zc
    rw [bgn_cycB l a (by omega) _ (by omega), bgn_cycB l a (by omega) _ (by omega), bgn_cycB l a (by omega) _ (by omega), ← zcr_rev]
    rw [show a + 2 * l.length - i = a + 2 * l.length - i - 2 + 2 from by omega, show a + 2 * l.length - (i + 1) = a + 2 * l.length - i - 2 + 1 from by omega, show a + 2 * l.length - (i + 2) = a + 2 * l.length - i - 2 from by omega]
    rfl
  refine conv_neg h2 (bgn_len _ _ _) (fun i hi => ?_) (fun i hi => ?_)
  · have h1 := Nat.mod_lt a (show 0 < l.length by omega)
    have h3 := Nat.div_add_mod a l.length
    have h4 := Nat.mod_lt (a % l.length + 2 * l.length - 2 - i) (show 0 < l.length by omega)
    have h5 := Nat.div_add_mod (a % l.length + 2 * l.length - 2 - i) l.length
    refine ⟨(a % l.length + 2 * l.length - 2 - i) % l.length, h4, ?_⟩
    rw [hz _ h4, ← zc_mod l (a + 2 * l.length - _ - 2)]
    rw [show a + 2 * l.length - (a % l.length + 2 * l.length - 2 - i) % l.length - 2 = i + l.length * (a / l.length) + l.length * ((a % l.length + 2 * l.length - 2 - i) / l.length) from by omega, Nat.add_mul_mod_self_left, Nat.add_mul_mod_self_left, zc_mod]
  · exact ⟨(a + 2 * l.length - i - 2) % l.length, Nat.mod_lt _ (by omega), by rw [zc_mod, hz i hi]; omega⟩
theorem bgn_mem (l : List (Int × Int)) (a : Nat) (back : Bool) (h : 0 < l.length) (p : Int × Int) : p ∈ bgn l a back ↔ p ∈ l := by
  have hm : ∀ p, p ∈ l ↔ ∃ i, i < l.length ∧ at' l i = p := by
    intro p
    rw [List.mem_iff_getElem?]
    constructor
    · rintro ⟨i, hi⟩
      rcases Nat.lt_or_ge i l.length with h | h
      · rw [at_get h] at hi; exact ⟨i, h, Option.some.inj hi⟩
      · rw [List.getElem?_eq_none h] at hi; cases hi
    · rintro ⟨i, hi, rfl⟩; exact ⟨i, at_get hi⟩
  constructor
  · intro hp
    simp only [bgn, List.mem_map, List.mem_range] at hp
    obtain ⟨i, hi, rfl⟩ := hp
    rw [hm]
    refine ⟨_, ?_, rfl⟩
    unfold bgI; split <;> exact Nat.mod_lt _ h
  · intro hp
    obtain ⟨i, hi, rfl⟩ := (hm p).1 hp
    simp only [bgn, List.mem_map, List.mem_range]
    have h1 := Nat.mod_lt a h
    have h3 := Nat.div_add_mod a l.length
    cases back with
    | false =>
      refine ⟨(i + l.length - a % l.length) % l.length, Nat.mod_lt _ h, ?_⟩
      simp only [bgI, Bool.false_eq_true, if_false]
      rw [Nat.add_mod_mod, show a + (i + l.length - a % l.length) = i + l.length + l.length * (a / l.length) from by omega, Nat.add_mul_mod_self_left, Nat.add_mod_right, Nat.mod_eq_of_lt hi]
    | true =>
      have h4 := Nat.mod_lt (a % l.length + l.length - i) h
      have h5 := Nat.div_add_mod (a % l.length + l.length - i) l.length
      refine ⟨(a % l.length + l.length - i) % l.length, h4, ?_⟩
      simp only [bgI, if_true]
      congr 1
      have hq : (a % l.length + l.length - i) / l.length ≤ 1 := by
        rcases Nat.lt_or_ge 1 ((a % l.length + l.length - i) / l.length) with h | h
        · have := Nat.mul_le_mul_left l.length h; omega
        · exact h
      generalize (a % l.length + l.length - i) / l.length = q at *
      generalize (a % l.length + l.length - i) % l.length = r at *
      have hq' : q = 0 ∨ q = 1 := by omega
      rcases hq' with rfl | rfl
      · rw [show a + l.length - r = i + l.length * (a / l.length) from by omega, Nat.add_mul_mod_self_left, Nat.mod_eq_of_lt hi]
      · rw [show a + l.length - r = i + l.length * (a / l.length) + l.length from by omega, Nat.add_mod_right, Nat.add_mul_mod_self_left, Nat.mod_eq_of_lt hi]
/-! ## the rectangle -/
theorem bxs_in (l : List (Int × Int)) : ∀ b : Int × Int × Int × Int, (bxs l b).1 ≤ b.1 ∧ (bxs l b).2.1 ≤ b.2.1 ∧ b.2.2.1 ≤ (bxs l b).2.2.1 ∧ b.2.2.2 ≤ (bxs l b).2.2.2 ∧ ∀ p ∈ l, (bxs l b).1 ≤ p.1 ∧ (bxs l b).2.1 ≤ p.2 ∧ p.1 ≤ (bxs l b).2.2.1 ∧ p.2 ≤ (bxs l b).2.2.2 := by
  induction l with
  | nil => intro b; simp [bxs]
  | cons q l ih =>
    intro b
    have h := ih (min b.1 q.1, min b.2.1 q.2, max b.2.2.1 q.1, max b.2.2.2 q.2)
    have e : bxs (q :: l) b = bxs l (min b.1 q.1, min b.2.1 q.2, max b.2.2.1 q.1, max b.2.2.2 q.2) := rfl
    rw [e]
    obtain ⟨h1, h2, h3, h4, h5⟩ := h
    simp only at h1 h2 h3 h4
    refine ⟨by omega, by omega, by omega, by omega, fun p hp => ?_⟩
    rcases List.mem_cons.1 hp with rfl | hp
    · omega
    · exact h5 p hp
theorem bxs_at (l : List (Int × Int)) : ∀ b : Int × Int × Int × Int, ((bxs l b).1 = b.1 ∨ ∃ p ∈ l, p.1 = (bxs l b).1) ∧ ((bxs l b).2.1 = b.2.1 ∨ ∃ p ∈ l, p.2 = (bxs l b).2.1) ∧ ((bxs l b).2.2.1 = b.2.2.1 ∨ ∃ p ∈ l, p.1 = (bxs l b).2.2.1) ∧ ((bxs l b).2.2.2 = b.2.2.2 ∨ ∃ p ∈ l, p.2 = (bxs l b).2.2.2) := by
  induction l with
  | nil => intro b; simp [bxs]
  | cons q l ih =>
    intro b
    have h := ih (min b.1 q.1, min b.2.1 q.2, max b.2.2.1 q.1, max b.2.2.2 q.2)
    have e : bxs (q :: l) b = bxs l (min b.1 q.1, min b.2.1 q.2, max b.2.2.1 q.1, max b.2.2.2 q.2) := rfl
    rw [e]
    generalize bxs l (min b.1 q.1, min b.2.1 q.2, max b.2.2.1 q.1, max b.2.2.2 q.2) = r at *
    obtain ⟨h1, h2, h3, h4⟩ := h
    simp only at h1 h2 h3 h4
    refine ⟨?_, ?_, ?_, ?_⟩
    · rcases h1 with h | ⟨p, hp, h⟩
      · rcases Int.le_total b.1 q.1 with h' | h'
        · exact .inl (by omega)
        · exact .inr ⟨q, by simp, by omega⟩
      · exact .inr ⟨p, by simp [hp], h⟩
    · rcases h2 with h | ⟨p, hp, h⟩
      · rcases Int.le_total b.2.1 q.2 with h' | h'
        · exact .inl (by omega)
        · exact .inr ⟨q, by simp, by omega⟩
      · exact .inr ⟨p, by simp [hp], h⟩
    · rcases h3 with h | ⟨p, hp, h⟩
      · rcases Int.le_total b.2.2.1 q.1 with h' | h'
        · exact .inr ⟨q, by simp, by omega⟩
        · exact .inl (by omega)
      · exact .inr ⟨p, by simp [hp], h⟩
    · rcases h4 with h | ⟨p, hp, h⟩
      · rcases Int.le_total b.2.2.2 q.2 with h' | h'
        · exact .inr ⟨q, by simp, by omega⟩
        · exact .inl (by omega)
      · exact .inr ⟨p, by simp [hp], h⟩
theorem box_spec (l : List (Int × Int)) (h : 0 < l.length) : (∀ p ∈ l, (box l).1 ≤ p.1 ∧ (box l).2.1 ≤ p.2 ∧ p.1 ≤ (box l).2.2.1 ∧ p.2 ≤ (box l).2.2.2) ∧ (∃ p ∈ l, p.1 = (box l).1) ∧ (∃ p ∈ l, p.2 = (box l).2.1) ∧ (∃ p ∈ l, p.1 = (box l).2.2.1) ∧ (∃ p ∈ l, p.2 = (box l).2.2.2) := by
  have m0 : at' l 0 ∈ l := List.mem_of_getElem? (at_get h)
  obtain ⟨-, -, -, -, h1⟩ := bxs_in l ((at' l 0).1, (at' l 0).2, (at' l 0).1, (at' l 0).2)
  obtain ⟨g1, g2, g3, g4⟩ := bxs_at l ((at' l 0).1, (at' l 0).2, (at' l 0).1, (at' l 0).2)
  refine ⟨h1, ?_, ?_, ?_, ?_⟩
  · exact g1.elim (fun h => ⟨_, m0, h.symm⟩) id
  · exact g2.elim (fun h => ⟨_, m0, h.symm⟩) id
  · exact g3.elim (fun h => ⟨_, m0, h.symm⟩) id
  · exact g4.elim (fun h => ⟨_, m0, h.symm⟩) id
theorem box_mem {l m : List (Int × Int)} (hl : 0 < l.length) (hm : 0 < m.length) (h : ∀ p, p ∈ m ↔ p ∈ l) : box m = box l := by
  obtain ⟨a, ⟨p1, a1, b1⟩, ⟨p2, a2, b2⟩, ⟨p3, a3, b3⟩, ⟨p4, a4, b4⟩⟩ := box_spec l hl
  obtain ⟨c, ⟨q1, c1, d1⟩, ⟨q2, c2, d2⟩, ⟨q3, c3, d3⟩, ⟨q4, c4, d4⟩⟩ := box_spec m hm
  have e1 := a q1 ((h _).1 c1); have e2 := a q2 ((h _).1 c2); have e3 := a q3 ((h _).1 c3); have e4 := a q4 ((h _).1 c4)
  have f1 := c p1 ((h _).2 a1); have f2 := c p2 ((h _).2 a2); have f3 := c p3 ((h _).2 a3); have f4 := c p4 ((h _).2 a4)
  generalize box l = x at *
  generalize box m = y at *
  obtain ⟨x1, x2, x3, x4⟩ := x
  obtain ⟨y1, y2, y3, y4⟩ := y
  simp only [Prod.mk.injEq] at *
  omega
theorem bgn_box (l : List (Int × Int)) (a : Nat) (back : Bool) (h : 0 < l.length) : box (bgn l a back) = box l :=
  box_mem h (by rw [bgn_len]; exact h) (fun p => bgn_mem l a back h p)
/-! ## turned -/
def sg (K : Int) : Int := if 4 ≤ K then -1 else 1
end PF
set_option linter.unusedSimpArgs false
set_option linter.unusedVariables false
/-! A region that draws its order and ends in a call that changes what was there: all else in it only reads or adds. -/
namespace JR
open Go Go.RowKit
/-- all other operations are known by their values alone -/
def stillL (i : Nat) : Nat → List Ent → Prop
  | _, [] => True
  | k, e :: es => (k = i ∨ (e.still = true ∧ ∀ w w', e.pre w → e.pre w')) ∧ stillL i (k + 1) es
theorem stillL_get {i : Nat} : ∀ (es : List Ent) (k : Nat), stillL i k es → ∀ (j : Nat) (e : Ent), es[j]? = some e → k + j ≠ i → e.still = true ∧ ∀ w w', e.pre w → e.pre w' := by
  intro es
  induction es with
  | nil => intro k _ j e h; simp at h
  | cons x es ih =>
    intro k h j e he hj
    cases j with
    | zero => simp at he; subst he; exact h.1.elim (fun h => absurd h (by omega)) id
    | succ j => exact ih (k + 1) h.2 j e (by simpa using he) (by omega)
section
variable {P : Program} {ops : Array Oper} {Q : Exit → Act → World → Prop} {plan : List Ent} {a0 : Act} {i : Nat} {o : Oper} {ns : List Need}
/-- the world in such a region: nothing of w0 was changed yet, or the call has come -/
def Was (w0 : World) (Done : World → Prop) (w : World) : Prop := Below w0.heap.size w0 w ∨ (w0.heap.size ≤ w.heap.size ∧ Done w)
/-- the call that comes last -/
theorem OpOk.last {w0 : World} {Done : World → Prop} {b : Nat} {cs0 : Array Value} {T : TypeId} (hg : o.guard = none)
    (hne : ∀ w, Done w → ∃ cs, cs ≠ cs0 ∧ w.heap[b]? = some (.cells cs T (0, 0)))
    (hst : stillL i 0 plan)
    (htil : ∀ a w, facts plan a0 a w ns → w.heap[b]? = some (.cells cs0 T (0, 0)))
    (h : ∀ a w, Below w0.heap.size w0 w → facts plan a0 a w ns → ∃ f args, (execOp a.eval o).run P w = .ok (.enter f args) w ∧
      Calls P f args w fun x w' => ∃ v, x = .returned v ∧ w.heap.size ≤ w'.heap.size ∧ Done w') :
    OpOk P ops Q (Was w0 Done) w0.heap.size plan a0 i o (.turn b cs0 (· ≠ cs0) T) ns := by
  intro a w hG hf
  refine ⟨fun _ => ?_, fun h => by simp [Region.wanted, hg] at h⟩
  have hB : Below w0.heap.size w0 w := by
    rcases hG with hG | ⟨-, hD⟩
    · exact hG
    · obtain ⟨cs, h1, h2⟩ := hne w hD
      have h3 := htil a w hf
      rw [h2] at h3
      cases h3
      exact absurd rfl h1
  obtain ⟨f, args, h1, h2⟩ := h a w hB hf
  unfold Oper.wp
  rw [h1, Oper.upon_enter]
  refine h2.mono fun x w' hx => ?_
  obtain ⟨v, rfl, hs, hD⟩ := hx
  refine ⟨v, rfl, hne w' hD, .inr fun l h _ _ => ⟨hs, .inr ⟨Nat.le_trans hB.size hs, hD⟩, fun j e he hj hp => ?_, fun j e he hj hs' => ?_⟩⟩
  · exact (stillL_get plan 0 hst j e he (by omega)).2 w w' hp
  · rw [(stillL_get plan 0 hst j e he (by omega)).1] at hs'; cases hs'
end
/-- the law -/
theorem wp_region_W {P : Program} {ops : Array Oper} {Q : Exit → Act → World → Prop} {a0 : Act} {id : Nat} {w0 : World} (Done : World → Prop) (plan : List Ent) (ns : List (List Need)) (hm : P.follows .mixedOrders = true)
    (hchk : (backL 0 ops.toList && uniqL a0.tmps.size ops.toList && needsOk ops.toList 0 ops.toList ns) = true) (hslots : slotsL ops.toList ops.toList plan = true)
    (hpre : ∀ e ∈ plan, e.pre w0.drew) (hDE : ∀ w w', Ext w w' → Done w → Done w')
    (hok : opsOk P ops Q (Was w0 Done) w0.heap.size plan a0 0 ops.toList plan ns)
    (hend : ∀ u l h w, Was w0 Done w → allE u l h (allPut u 0 ops.toList a0) w 0 plan → Q .normal (allPut u 0 ops.toList a0) w) :
    (Code.region id ops true).wp P Q a0 w0 :=
  wp_region_J (G := Was w0 Done) (B0 := w0.heap.size) hm hchk hslots hpre (.inl (Below.refl _ w0).drew)
    (fun _ _ e h => h.elim (fun h => .inl (h.trans (e.mono h.size))) (fun h => .inr ⟨Nat.le_trans h.1 e.size, hDE _ _ e h.2⟩)) (fun _ h => h.elim (fun h => h.size) (fun h => h.1)) hok (fun u l h w hG hE _ _ => hend u l h w hG hE)
end JR
set_option linter.unusedSimpArgs false
set_option linter.unusedVariables false
/-! The bytes of the index, exactly: numbers laid down, read, appended. -/
namespace JR
structure StopN (p : Prop) : Prop where out : p
end JR
namespace PF
open Go Go.RowKit JR
/-- a byte -/
def byv (b : Nat) : Value := .int .u8 b
def le4 (x : Nat) : List Nat := [x % 256, x / 256 % 256, x / 65536 % 256, x / 16777216 % 256]
def le8 (x : Nat) : List Nat := [x % 256, x / 256 % 256, x / 65536 % 256, x / 16777216 % 256, x / 4294967296 % 256, x / 1099511627776 % 256, x / 281474976710656 % 256, x / 72057594037927936 % 256]
theorem byv_one (bs : List Nat) : ∀ u ∈ bs.map byv, u.oneCell' = true := by
  intro u hu
  rw [List.mem_map] at hu
  obtain ⟨b, -, rfl⟩ := hu
  rfl
/-- one block changed -/
structure Rw (w u : World) (R : Nat) (cs : Array Value) (T : TypeId) : Prop where
  row : u.heap[R]? = some (.cells cs T (0, 0))
  kp : Keep [R] w u
theorem Rw.refl {w : World} {R : Nat} {cs : Array Value} {T : TypeId} (h : w.heap[R]? = some (.cells cs T (0, 0))) : Rw w w R cs T := ⟨h, Keep.refl _ _⟩
theorem Rw.set {w u : World} {R : Nat} {cs : Array Value} {T : TypeId} (h : Rw w u R cs T) (o : Nat) (v : Value) : Rw w (u.setCell ⟨R, o, none⟩ v) R (cs.setIfInBounds o v) T := by
  rw [setCell_row h.row]
  exact ⟨setRow_same h.row, Keep.setRow h.kp (.inr (by simp))⟩
theorem Rw.ext {w u u' : World} {R : Nat} {cs : Array Value} {T : TypeId} (h : Rw w u R cs T) (e : Below u.heap.size u u') : Rw w u' R cs T :=
  ⟨(e.block _ (lt_of_some h.row)).trans h.row, Keep.ext e h.kp⟩
theorem Rw.below {w u : World} {R base : Nat} {cs : Array Value} {T : TypeId} (h : Rw w u R cs T) (hs : base ≤ w.heap.size) (hR : base ≤ R) : Below base w u :=
  Keep.belowX h.kp (Below.refl base w) hs (by intro x hx; simp at hx; omega)
end PF
namespace Go.Proofs.YtlpibeloedfbdaaGreat
open Go.RowKit PF JR

theorem numBytes_c (n : Nat) (hn : n ≤ 255) (w : World) : Calls Tryz.prog 58 #[.int .u32 n] w fun e w' => e = .returned (.int .u8 1) ∧ w' = w := by
  have h : (n : Int) ≤ 255 := by omega
  have h' := decide_eq_true h
  go_enter Tryz.func58, Tryz.ntmps58
  go_wp2
  go_ret
  exact ⟨rfl, rfl⟩
theorem infoBy : (Tryz.prog.info? 5).map (fun i => (i.zero, i.size, i.bytes)) = some (some (.int .u8 0), 1, 1) := by kernel_rfl
theorem f64bits (x : Nat) (w : World) : (callFunc 70 #[.float .f64 x]).run Tryz.prog w = .ok (.value (.int .u64 x)) w := by kernel_rfl
/-- a row of bytes of the call's own -/
def Bys (w : World) (base : Nat) (v : Value) (bs : List Nat) : Prop := w.ownsRow base 5 1 v bs.length (bs.map byv)
theorem Bys.below {w w' : World} {base : Nat} {v : Value} {bs : List Nat} (h : Bys w base v bs) (hb : Below w.heap.size w w') : Bys w' base v bs := h.kept (Ext.grown hb none) (own_none _)
theorem Bys.alloc {w : World} {base : Nat} {v : Value} {bs : List Nat} (h : Bys w base v bs) (o : Obj) : Bys (w.alloc o) base v bs := World.ownsRow.alloc h o
theorem Bys.rw {w u : World} {b base : Nat} {T : TypeId} {cs : Array Value} {v : Value} {bs : List Nat} (h : Rw w u b cs T) (hv : Bys w base v bs) (hne : v.ownBlock ≠ some b) : Bys u base v bs :=
  hv.kept (w' := u) (row := some b) ⟨h.kp.os, h.kp.tape, h.kp.output, h.kp.size, fun k hk hne => h.kp.block k hk (by intro hm; simp at hm; exact hne (by rw [hm]))⟩ (.inr hne)

set_option maxRecDepth 100000 in
set_option maxHeartbeats 4000000 in
theorem putU64_c (x : Nat) (hx : x < 18446744073709551616) (b : Nat) (w : World) (x0 x1 x2 x3 x4 x5 x6 x7 : Value) (T : TypeId) (hb : w.heap[b]? = some (.cells #[x0, x1, x2, x3, x4, x5, x6, x7] T (0, 0))) :
    Calls Tryz.prog 69 #[.agg #[], .slice (some ⟨b, 0, none⟩) 8 8, .int .u64 x] w fun e w' => e = .returned (.tuple #[]) ∧ Rw w w' b ((le8 x).map byv).toArray T := by
  have hr := (Rw.refl hb).ext ((Below.refl _ w).alloc (Nat.le_refl _) (.cells #[] 120))
  have c0 := cellAt hr.row 0
  have c1 := cellAt hr.row 1
  have c2 := cellAt hr.row 2
  have c3 := cellAt hr.row 3
  have c4 := cellAt hr.row 4
  have c5 := cellAt hr.row 5
  have c6 := cellAt hr.row 6
  have c7 := cellAt hr.row 7
  have ff := fun o => frozenAt hr.row o
  simp only [List.getElem?_toArray, List.getElem?_cons_zero, List.getElem?_cons_succ] at c0 c1 c2 c3 c4 c5 c6 c7
  clear hb
  go_enter Tryz.func69, Tryz.ntmps69
  go_wp2
  go_end0
  refine ⟨rfl, ?_⟩
  have h := (((((((hr.set 0 (.int .u8 ((x : Int) % 256))).set 1 (.int .u8 ((x : Int) / 256 % 256))).set 2 (.int .u8 ((x : Int) / 65536 % 256))).set 3 (.int .u8 ((x : Int) / 16777216 % 256))).set 4 (.int .u8 ((x : Int) / 4294967296 % 256))).set 5 (.int .u8 ((x : Int) / 1099511627776 % 256))).set 6 (.int .u8 ((x : Int) / 281474976710656 % 256))).set 7 (.int .u8 ((x : Int) / 72057594037927936))
  have e : ((le8 x).map byv).toArray = #[.int .u8 ((x : Int) % 256), .int .u8 ((x : Int) / 256 % 256), .int .u8 ((x : Int) / 65536 % 256), .int .u8 ((x : Int) / 16777216 % 256), .int .u8 ((x : Int) / 4294967296 % 256), .int .u8 ((x : Int) / 1099511627776 % 256), .int .u8 ((x : Int) / 281474976710656 % 256), .int .u8 ((x : Int) / 72057594037927936)] := by
    have e7 : ((x / 72057594037927936 % 256 : Nat) : Int) = (x : Int) / 72057594037927936 := by omega
    simp [le8, byv]
    omega
  rw [e]
  simpa [Array.setIfInBounds] using h

set_option maxRecDepth 100000 in
set_option maxHeartbeats 4000000 in
theorem appendFloat_c (x base : Nat) (hx : x < 18446744073709551616) (v : Value) (bs : List Nat) (w : World) (hv : Bys w base v bs) (hn : bs.length ≤ 100000) (hbs : base ≤ w.heap.size) :
    Calls Tryz.prog 64 #[v, fl x] w fun e w' => ∃ v', e = .returned v' ∧ Bys w' base v' (bs ++ le8 x) ∧ Below base w w' := by
  have hf := f64bits
  have hlt : ∀ g, v.ownBlock = some g → g < w.heap.size := fun g hg => (hv.lt g hg).2
  have hlo : ∀ g, v.ownBlock = some g → base ≤ g := fun g hg => (hv.lt g hg).1
  have hb0 := heap_alloc_new w (.cells #[.int .u8 0, .int .u8 0, .int .u8 0, .int .u8 0, .int .u8 0, .int .u8 0, .int .u8 0, .int .u8 0] 143)
  go_enter Tryz.func64, Tryz.ntmps64
  go_wp2
  go_still_tail 4, (by kernel_rfl)
  change wpList _ _ _ _ _ (w.alloc (.cells #[.int .u8 0, .int .u8 0, .int .u8 0, .int .u8 0, .int .u8 0, .int .u8 0, .int .u8 0, .int .u8 0] 143)).drew
  have hb1 : (w.alloc (.cells #[.int .u8 0, .int .u8 0, .int .u8 0, .int .u8 0, .int .u8 0, .int .u8 0, .int .u8 0, .int .u8 0] 143)).drew.heap[w.heap.size]? = _ := hb0
  have hv1 : Bys (w.alloc (.cells #[.int .u8 0, .int .u8 0, .int .u8 0, .int .u8 0, .int .u8 0, .int .u8 0, .int .u8 0, .int .u8 0] 143)).drew base v bs :=
    (hv.alloc _).kept ⟨rfl, rfl, rfl, Nat.le_refl _, fun _ _ _ => rfl⟩ (own_none _)
  have hB1 : Below base w (w.alloc (.cells #[.int .u8 0, .int .u8 0, .int .u8 0, .int .u8 0, .int .u8 0, .int .u8 0, .int .u8 0, .int .u8 0] 143)).drew := ((Below.refl base w).alloc hbs _).drew
  have hpu := putU64_c x hx w.heap.size _ _ _ _ _ _ _ _ _ _ hb1
  have hsz : (w.alloc (.cells #[.int .u8 0, .int .u8 0, .int .u8 0, .int .u8 0, .int .u8 0, .int .u8 0, .int .u8 0, .int .u8 0] 143)).drew.heap.size = w.heap.size + 1 := by simp
  generalize (w.alloc (.cells #[.int .u8 0, .int .u8 0, .int .u8 0, .int .u8 0, .int .u8 0, .int .u8 0, .int .u8 0, .int .u8 0] 143)).drew = w1 at *
  clear hb0 hb1 hx
  go_wp2_with (go_at_call 69; refine JR.StopN.out ?_)
  refine ⟨?_⟩
  refine hpu.mono ?_
  rintro e w2 ⟨rfl, hc⟩
  have hv2 := hv1.rw hc (fun h => by have := hlt _ h; omega)
  have c3 := hc.row
  have c4 := hc.kp
  have hs2 := c4.size
  have hB2 : Below base w w2 := Keep.belowX c4 hB1 (by omega) (by intro x hx; simp at hx; omega)
  obtain ⟨i0, hi, hz0, hz1, hz2⟩ := info_parts infoBy
  clear hpu hv1 hB1 c4 hv hc
  go_wp2_with (at_builtin; refine wpList_append_own _ rfl _ _ 107 rfl base 5 i0 (.int .u8 0) 1 1 Tryz.underlying107 hi hz0 hz1 hz2 rfl (by decide) _ _ _ rfl hv2 ⟨w.heap.size, 0, none⟩ 8 8 ((le8 x).map byv) rfl ?c0 ?c1 ?c2 ?c3 ?c4 ?c5 ?_)
  case c0 => rfl
  case c1 => exact row_cells c3
  case c2 => exact byv_one _
  case c3 => unfold maxLen; omega
  case c4 => omega
  case c5 => omega
  intro v' w3 hown' hgrow _
  have hB3 := row_below hB2 hgrow hlo (by omega)
  go_wp2
  go_ret
  refine ⟨_, rfl, ?_, hB3⟩
  unfold Bys
  rw [List.map_append, List.length_append]
  exact hown'

set_option maxRecDepth 100000 in
set_option maxHeartbeats 1000000 in
theorem appendNum_c (k base : Nat) (hk : k ≤ 255) (v : Value) (bs : List Nat) (w : World) (hv : Bys w base v bs) (hn : bs.length ≤ 100000) (hbs : base ≤ w.heap.size) :
    Calls Tryz.prog 59 #[v, .int .u32 k, .int .u8 1] w fun e w' => ∃ v', e = .returned v' ∧ Bys w' base v' (bs ++ [k]) ∧ Below base w w' := by
  have hlo : ∀ g, v.ownBlock = some g → base ≤ g := fun g hg => (hv.lt g hg).1
  obtain ⟨i0, hi, hz0, hz1, hz2⟩ := info_parts infoBy
  have iw : IntKind.u8.wrap (k : Int) = (k : Int) := by unfold IntKind.wrap; simp [IntKind.bits, IntKind.signed]; omega
  have hm : (k : Int) % 256 = (k : Int) := by omega
  go_enter Tryz.func59, Tryz.ntmps59
  go_wp2_with (at_builtin; refine wpList_append_own _ rfl _ _ 107 rfl base 5 i0 (.int .u8 0) 1 1 Tryz.underlying107 hi hz0 hz1 hz2 rfl (by decide) _ _ _ rfl (hv.alloc _) ⟨w.heap.size, 0, none⟩ 1 1 [byv k] rfl rfl (row_cells (heap_alloc_new w _)) ?c2 ?c3 ?c4 ?c5 ?_)
  case c2 => intro u hu; simp at hu; subst hu; rfl
  case c3 => unfold maxLen; omega
  case c4 => omega
  case c5 => simp; omega
  intro v' w3 hown' hgrow _
  have hB3 := row_below ((Below.refl base w).alloc hbs _) hgrow hlo (by simp; omega)
  go_wp2
  go_ret
  refine ⟨_, rfl, ?_, hB3⟩
  unfold Bys
  rw [List.map_append, List.length_append]
  exact hown'
/-- append of bytes that were just laid -/
theorem wpList_byt {ops : Array Oper} {rest : List Oper} {o : Oper} {a : Act} {Q : Exit → Act → World → Prop} (hgd : o.guard = none) (s x : Operand) (ho : o.op = .call { callee := .builtin .append, args := #[s, x], argTypes := #[107, 107] })
    (base : Nat) (bs : List Nat) (v : Value) (w0 w : World) (hs : a.eval s = v) (hv : Bys w base v bs) (hB : Below base w0 w) (hbs : base ≤ w0.heap.size) (cs : List Nat) (T : TypeId) (m : Nat) (hm : cs.length = m)
    (hx : a.eval x = .slice (some ⟨w.heap.size, 0, none⟩) m m) (hn : bs.length + m ≤ 1000000)
    (h : ∀ v' w', Bys w' base v' (bs ++ cs) → Below base w0 w' → wpList Tryz.prog ops Q rest (a.put o.dst v') w') : wpList Tryz.prog ops Q (o :: rest) a (w.alloc (.cells (cs.map byv).toArray T)) := by
  have hlo : ∀ g, v.ownBlock = some g → base ≤ g := fun g hg => (hv.lt g hg).1
  obtain ⟨i0, hi, hz0, hz1, hz2⟩ := info_parts infoBy
  have hsz := hB.size
  refine wpList_append_own _ hgd s x 107 ho base 5 i0 (.int .u8 0) 1 1 Tryz.underlying107 hi hz0 hz1 hz2 rfl (by decide) _ _ _ hs (hv.alloc _) ⟨w.heap.size, 0, none⟩ m m (cs.map byv) hx (by simp [hm]) (row_cells (heap_alloc_new w _)) (byv_one _) (by unfold maxLen; omega) (by omega) (by simp; omega) ?_
  intro v' w3 hown' hgrow _
  refine h v' w3 ?_ (row_below (hB.alloc (by omega) _) hgrow hlo (by simp; omega))
  unfold Bys
  rw [List.map_append, List.length_append, hm]
  exact hown'
end Go.Proofs.YtlpibeloedfbdaaGreat
set_option linter.unusedSimpArgs false
set_option linter.unusedVariables false
/-! The r-tree of few segments, exactly. -/
namespace PF
open Go Go.RowKit JR
def Bd4 (a b c d : Int) : Prop := a.natAbs ≤ 1000000 ∧ b.natAbs ≤ 1000000 ∧ c.natAbs ≤ 1000000 ∧ d.natAbs ≤ 1000000
theorem lt_fb {b a : Int} (hb : b.natAbs ≤ 1000000) (ha : a.natAbs ≤ 1000000) : (FloatKind.f64.format.order (fb b) (fb a) == some .lt) = decide (b < a) := by
  rw [oR (fb_rep b (by omega)) (fb_rep a (by omega)), Bool.eq_iff_iff]
  simp [icmp_lt]
theorem gt_fb {b a : Int} (hb : b.natAbs ≤ 1000000) (ha : a.natAbs ≤ 1000000) : (FloatKind.f64.format.order (fb b) (fb a) == some .gt) = decide (a < b) := by
  rw [oR (fb_rep b (by omega)) (fb_rep a (by omega)), Bool.eq_iff_iff]
  simp [icmp_gt]
def inR (a0 a1 a2 a3 b0 b1 b2 b3 : Int) : Bool := decide (a0 ≤ b0 ∧ b2 ≤ a2 ∧ a1 ≤ b1 ∧ b3 ≤ a3)
theorem inR_true {a0 a1 a2 a3 b0 b1 b2 b3 : Int} (h : a0 ≤ b0 ∧ b2 ≤ a2 ∧ a1 ≤ b1 ∧ b3 ≤ a3) : inR a0 a1 a2 a3 b0 b1 b2 b3 = true := decide_eq_true h
theorem inR_false {a0 a1 a2 a3 b0 b1 b2 b3 : Int} (h : b0 < a0 ∨ a2 < b2 ∨ b1 < a1 ∨ a3 < b3) : inR a0 a1 a2 a3 b0 b1 b2 b3 = false := decide_eq_false (by omega)
end PF
namespace Go.Proofs.YtlpibeloedfbdaaGreat
open Go.RowKit PF JR
theorem asNode (v : Value) (w : World) : (Instr.typeAssert (.iface 129 v) 20 129 false).run Tryz.prog w = .ok v w := by kernel_rfl
theorem asInt (v : Value) (w : World) : (Instr.typeAssert (.iface 3 v) 20 3 false).run Tryz.prog w = .ok v w := by kernel_rfl
theorem _root_.PF.Rw.drew {w u : World} {R : Nat} {cs : Array Value} {T : TypeId} (h : Rw w u R cs T) : Rw w u.drew R cs T := ⟨h.row, h.kp.drew⟩
theorem _root_.PF.Rw.drewN {w u : World} {R : Nat} {cs : Array Value} {T : TypeId} (h : Rw w u R cs T) (n : Nat) : Rw w (u.drewN n) R cs T := ⟨h.row, ⟨h.kp.os, h.kp.tape, h.kp.output, h.kp.size, h.kp.block⟩⟩
theorem _root_.PF.Rw.cell {w u : World} {R : Nat} {cs : Array Value} {T : TypeId} (h : Rw w u R cs T) (o : Nat) (ho : o < cs.size) : ∃ c, u.cell? ⟨R, o, none⟩ = some c :=
  ⟨cs[o], (cellAt h.row o).trans (Array.getElem?_eq_getElem ho)⟩
theorem _root_.PF.Rw.old {w u : World} {R : Nat} {cs : Array Value} {T : TypeId} (h : Rw w u R cs T) {B o : Nat} {v : Value} (hc : w.cell? ⟨B, o, none⟩ = some v) (hne : B ≠ R) : u.cell? ⟨B, o, none⟩ = some v :=
  (h.kp.cell (p := ⟨B, o, none⟩) (World.block_lt_of_cell? w _ hc) (by simpa using hne)).trans hc

/-- what a fit has done after k rounds -/
def FitI (w u : World) (R o : Nat) (cs : Array Value) (T : TypeId) (a0 a1 b0 b1 : Nat) (k : Nat) : Prop :=
  (k = 0 ∧ Rw w u R cs T) ∨ (k = 1 ∧ Rw w u R ((cs.setIfInBounds (o + 1) (fl a0)).setIfInBounds (o + 3) (fl b0)) T) ∨ (k = 2 ∧ Rw w u R ((((cs.setIfInBounds (o + 1) (fl a0)).setIfInBounds (o + 3) (fl b0)).setIfInBounds (o + 1 + 1) (fl a1)).setIfInBounds (o + 3 + 1) (fl b1)) T)

theorem slcNil (a : Addr) (n m : Nat) (w : World) : (binOp .eql 105 (.slice (some a) n m) (.slice none 0 0)).run Tryz.prog w = .ok (.bool false) w := by kernel_rfl
theorem ifNil (T : TypeId) (v : Value) (w : World) : (binOp .eql 20 (.iface T v) .nilIface).run Tryz.prog w = .ok (.bool false) w := by kernel_rfl
theorem nilNil (w : World) : (binOp .eql 20 .nilIface .nilIface).run Tryz.prog w = .ok (.bool true) w := by kernel_rfl

set_option maxRecDepth 100000 in
set_option maxHeartbeats 4000000 in
theorem fit_c (P p c Q q d R o : Nat) (cs : Array Value) (T : TypeId) (a0 a1 b0 b1 : Nat) (Tv : TypeId) (x : Value) (w : World)
    (p0 : w.cell? ⟨P, p, none⟩ = some (fl a0)) (p1 : w.cell? ⟨P, p + 1, none⟩ = some (fl a1)) (q0 : w.cell? ⟨Q, q, none⟩ = some (fl b0)) (q1 : w.cell? ⟨Q, q + 1, none⟩ = some (fl b1))
    (hR : w.heap[R]? = some (.cells cs T (0, 0))) (hP : P ≠ R) (hQ : Q ≠ R) (ho : o + 5 ≤ cs.size) :
    Calls Tryz.prog 52 #[.slice (some ⟨P, p, none⟩) 2 c, .slice (some ⟨Q, q, none⟩) 2 d, .iface Tv x, .pointer (some ⟨R, o, none⟩)] w fun e w' => e = .returned (.tuple #[]) ∧
      Rw w w' R (((((cs.setIfInBounds (o + 1) (fl a0)).setIfInBounds (o + 3) (fl b0)).setIfInBounds (o + 1 + 1) (fl a1)).setIfInBounds (o + 3 + 1) (fl b1)).setIfInBounds o (.iface Tv x)) T := by
  have hsn := slcNil
  go_enter Tryz.func52, Tryz.ntmps52
  go_wp2
  go_loopw [8] (fun i wr => ∃ k : Nat, k ≤ 2 ∧ i = .int .i64 k ∧ FitI w wr R o cs T a0 a1 b0 b1 k) (fun i _ => 2 - (intOf i).toNat)
  case atStart => exact ⟨0, by decide, rfl, .inl ⟨rfl, Rw.refl hR⟩⟩
  case round =>
    obtain ⟨k, hk, rfl, h | h | h⟩ := hrel
    · obtain ⟨rfl, h⟩ := h
      have x0 := h.old p0 hP
      have x1 := h.old q0 hQ
      obtain ⟨y0, z0⟩ := h.cell (o + 1) (by omega)
      obtain ⟨y1, z1⟩ := h.cell (o + 3) (by omega)
      have f0 := frozenAt h.row (o + 1)
      have f1 := frozenAt h.row (o + 3)
      clear p0 p1 q0 q1 hR
      go_upto_region 9 with (fail)
      go_region
      go_upto_region 10 with (fail)
      go_region
      go_wp2
      go_roundw
      case rel => exact ⟨1, by decide, by go_num, by first | exact .inr (.inl ⟨rfl, (h.drew.set _ _).drew.set _ _⟩) | exact .inr (.inr ⟨rfl, (h.drew.set _ _).drew.set _ _⟩) | trace_state⟩
      case measure => simp [intOf]
    · obtain ⟨rfl, h⟩ := h
      have x0 := h.old p1 hP
      have x1 := h.old q1 hQ
      obtain ⟨y0, z0⟩ := h.cell (o + 1 + 1) (by simp only [Array.size_setIfInBounds]; omega)
      obtain ⟨y1, z1⟩ := h.cell (o + 3 + 1) (by simp only [Array.size_setIfInBounds]; omega)
      have f0 := frozenAt h.row (o + 1 + 1)
      have f1 := frozenAt h.row (o + 3 + 1)
      clear p0 p1 q0 q1 hR
      go_upto_region 9 with (fail)
      go_region
      go_upto_region 10 with (fail)
      go_region
      go_wp2
      go_roundw
      case rel => exact ⟨2, by decide, by go_num, by first | exact .inr (.inl ⟨rfl, (h.drew.set _ _).drew.set _ _⟩) | exact .inr (.inr ⟨rfl, (h.drew.set _ _).drew.set _ _⟩) | trace_state⟩
      case measure => simp [intOf]
    · obtain ⟨rfl, h⟩ := h
      obtain ⟨y0, z0⟩ := h.cell o (by simp only [Array.size_setIfInBounds]; omega)
      have f0 := frozenAt h.row o
      clear p0 p1 q0 q1 hR
      go_wp2
      go_end0
      exact ⟨rfl, h.set _ _⟩

/-- four numbers at their places in a rectangle of the tree -/
def Rec4 (w : World) (R o a b c d : Nat) : Prop := w.cell? ⟨R, o + 1, none⟩ = some (fl a) ∧ w.cell? ⟨R, o + 1 + 1, none⟩ = some (fl b) ∧ w.cell? ⟨R, o + 3, none⟩ = some (fl c) ∧ w.cell? ⟨R, o + 3 + 1, none⟩ = some (fl d)
theorem Rec4.below {w u : World} {R o a b c d : Nat} (h : Rec4 w R o a b c d) (hb : Below w.heap.size w u) : Rec4 u R o a b c d := by
  obtain ⟨h1, h2, h3, h4⟩ := h
  have e : ∀ k, u.cell? ⟨R, k, none⟩ = w.cell? ⟨R, k, none⟩ := fun k => World.cell?_of_block (hb.block R (World.block_lt_of_cell? w _ h1))
  exact ⟨(e _).trans h1, (e _).trans h2, (e _).trans h3, (e _).trans h4⟩

set_option maxRecDepth 100000 in
set_option maxHeartbeats 4000000 in
theorem contains_c (R o B p : Nat) (a0 a1 a2 a3 b0 b1 b2 b3 : Int) (hA : Bd4 a0 a1 a2 a3) (hBd : Bd4 b0 b1 b2 b3) (w : World) (hr : Rec4 w R o (fb a0) (fb a1) (fb a2) (fb a3)) (hb : Rec4 w B p (fb b0) (fb b1) (fb b2) (fb b3)) :
    Calls Tryz.prog 66 #[.pointer (some ⟨R, o, none⟩), .pointer (some ⟨B, p, none⟩)] w fun e w' => e = .returned (.bool (inR a0 a1 a2 a3 b0 b1 b2 b3)) ∧ Below w.heap.size w w' := by
  obtain ⟨ha0, ha1, ha2, ha3⟩ := hA
  obtain ⟨hb0, hb1, hb2, hb3⟩ := hBd
  generalize hq : inR a0 a1 a2 a3 b0 b1 b2 b3 = ans
  replace hq : JR.StopN (inR a0 a1 a2 a3 b0 b1 b2 b3 = ans) := ⟨hq⟩
  go_enter Tryz.func66, Tryz.ntmps66
  go_wp2
  go_loopw [5] (fun i wr => ∃ k : Nat, k ≤ 2 ∧ i = .int .i64 k ∧ Below w.heap.size w wr ∧ JR.StopN ((1 ≤ k → a0 ≤ b0 ∧ b2 ≤ a2) ∧ (2 ≤ k → a1 ≤ b1 ∧ b3 ≤ a3))) (fun i _ => 2 - (intOf i).toNat)
  case atStart => exact ⟨0, by decide, rfl, Below.refl _ _, ⟨fun h => absurd h (by decide), fun h => absurd h (by decide)⟩⟩
  case round =>
    obtain ⟨k, hk, rfl, hB, hI⟩ := hrel
    obtain ⟨r1, r2, r3, r4⟩ := hr.below hB
    obtain ⟨s1, s2, s3, s4⟩ := hb.below hB
    clear hr hb
    obtain rfl | rfl | rfl : k = 0 ∨ k = 1 ∨ k = 2 := by omega
    · obtain ⟨t1, h1⟩ : ∃ t, (FloatKind.f64.format.order (fb b0) (fb a0) == some .lt) = t := ⟨_, rfl⟩
      have e1 : JR.StopN (t1 = decide (b0 < a0)) := ⟨h1.symm.trans (lt_fb hb0 ha0)⟩
      obtain ⟨t2, h2⟩ : ∃ t, (FloatKind.f64.format.order (fb b2) (fb a2) == some .gt) = t := ⟨_, rfl⟩
      have e2 : JR.StopN (t2 = decide (a2 < b2)) := ⟨h2.symm.trans (gt_fb hb2 ha2)⟩
      clear r2 r4 s2 s4
      cases t1
      · cases t2
        · go_upto_region 4 with (fail)
          go_quiet (fail)
          go_wp2
          go_roundw
          case rel => exact ⟨1, by decide, by go_num, below_drewN hB _, ⟨fun _ => by have h1 := e1.out; have h2 := e2.out; simp at h1 h2; omega, fun h => absurd h (by decide)⟩⟩
          case measure => simp [intOf]
        · go_upto_region 4 with (fail)
          go_quiet (fail)
          go_wp2
          go_ret
          refine ⟨?_, below_drewN hB _⟩
          have h1 := e2.out
          rw [← hq.out, inR_false (by simp at h1; omega)]
          rfl
      · clear h2 e2
        go_upto_region 4 with (fail)
        go_quiet (fail)
        go_wp2
        go_ret
        refine ⟨?_, below_drewN hB _⟩
        have h1 := e1.out
        rw [← hq.out, inR_false (by simp at h1; omega)]
        rfl
    · obtain ⟨t1, h1⟩ : ∃ t, (FloatKind.f64.format.order (fb b1) (fb a1) == some .lt) = t := ⟨_, rfl⟩
      have e1 : JR.StopN (t1 = decide (b1 < a1)) := ⟨h1.symm.trans (lt_fb hb1 ha1)⟩
      obtain ⟨t2, h2⟩ : ∃ t, (FloatKind.f64.format.order (fb b3) (fb a3) == some .gt) = t := ⟨_, rfl⟩
      have e2 : JR.StopN (t2 = decide (a3 < b3)) := ⟨h2.symm.trans (gt_fb hb3 ha3)⟩
      clear r1 r3 s1 s3
      cases t1
      · cases t2
        · go_upto_region 4 with (fail)
          go_quiet (fail)
          go_wp2
          go_roundw
          case rel => exact ⟨2, by decide, by go_num, below_drewN hB _, ⟨fun _ => hI.out.1 (by decide), fun _ => by have h1 := e1.out; have h2 := e2.out; simp at h1 h2; omega⟩⟩
          case measure => simp [intOf]
        · go_upto_region 4 with (fail)
          go_quiet (fail)
          go_wp2
          go_ret
          refine ⟨?_, below_drewN hB _⟩
          have h1 := e2.out
          rw [← hq.out, inR_false (by simp at h1; omega)]
          rfl
      · clear h2 e2
        go_upto_region 4 with (fail)
        go_quiet (fail)
        go_wp2
        go_ret
        refine ⟨?_, below_drewN hB _⟩
        have h1 := e1.out
        rw [← hq.out, inR_false (by simp at h1; omega)]
        rfl
    · go_wp2
      go_ret
      refine ⟨?_, hB⟩
      have h1 := hI.out.1 (by decide)
      have h2 := hI.out.2 (by decide)
      rw [← hq.out, inR_true (by omega)]
      rfl

/-- what expand has done after k rounds -/
def ExI (w u : World) (R : Nat) (a0 a1 a2 a3 b0 b1 b2 b3 : Int) (x0 x1 x6 x7 : Value) (T : TypeId) (k : Nat) : Prop :=
  (k = 0 ∧ Rw w u R #[x0, x1, fl (fb a0), fl (fb a1), fl (fb a2), fl (fb a3), x6, x7] T) ∨ (k = 1 ∧ Rw w u R #[x0, x1, fl (fb (min a0 b0)), fl (fb a1), fl (fb (max a2 b2)), fl (fb a3), x6, x7] T) ∨ (k = 2 ∧ Rw w u R #[x0, x1, fl (fb (min a0 b0)), fl (fb (min a1 b1)), fl (fb (max a2 b2)), fl (fb (max a3 b3)), x6, x7] T)
set_option maxRecDepth 100000 in
set_option maxHeartbeats 4000000 in
theorem expand_c (R B p : Nat) (a0 a1 a2 a3 b0 b1 b2 b3 : Int) (hA : Bd4 a0 a1 a2 a3) (hBd : Bd4 b0 b1 b2 b3) (x0 x1 x6 x7 : Value) (T : TypeId) (w : World) (hR : w.heap[R]? = some (.cells #[x0, x1, fl (fb a0), fl (fb a1), fl (fb a2), fl (fb a3), x6, x7] T (0, 0))) (hb : Rec4 w B p (fb b0) (fb b1) (fb b2) (fb b3)) (hne : B ≠ R) :
    Calls Tryz.prog 61 #[.pointer (some ⟨R, 1, none⟩), .pointer (some ⟨B, p, none⟩)] w fun e w' => e = .returned (.tuple #[]) ∧ Rw w w' R #[x0, x1, fl (fb (min a0 b0)), fl (fb (min a1 b1)), fl (fb (max a2 b2)), fl (fb (max a3 b3)), x6, x7] T := by
  obtain ⟨ha0, ha1, ha2, ha3⟩ := hA
  obtain ⟨hb0, hb1, hb2, hb3⟩ := hBd
  go_enter Tryz.func61, Tryz.ntmps61
  go_wp2
  go_loopw [4] (fun i wr => ∃ k : Nat, k ≤ 2 ∧ i = .int .i64 k ∧ ExI w wr R a0 a1 a2 a3 b0 b1 b2 b3 x0 x1 x6 x7 T k) (fun i _ => 2 - (intOf i).toNat)
  case atStart => exact ⟨0, by decide, rfl, .inl ⟨rfl, Rw.refl hR⟩⟩
  case round =>
    clear hR
    obtain ⟨k, hk, rfl, h⟩ := hrel
    obtain ⟨s1, s2, s3, s4⟩ := hb
    rcases h with ⟨rfl, h⟩ | ⟨rfl, h⟩ | ⟨rfl, h⟩
    · obtain ⟨t1, h1⟩ : ∃ t, (FloatKind.f64.format.order (fb b0) (fb a0) == some .lt) = t := ⟨_, rfl⟩
      have e1 : JR.StopN (t1 = decide (b0 < a0)) := ⟨h1.symm.trans (lt_fb hb0 ha0)⟩
      replace s1 := h.old s1 hne
      replace s2 := h.old s2 hne
      replace s3 := h.old s3 hne
      replace s4 := h.old s4 hne
      obtain ⟨t2, h2⟩ : ∃ t, (FloatKind.f64.format.order (fb b2) (fb a2) == some .gt) = t := ⟨_, rfl⟩
      have e2 : JR.StopN (t2 = decide (a2 < b2)) := ⟨h2.symm.trans (gt_fb hb2 ha2)⟩
      have r1 := cellAt h.row 2
      have r3 := cellAt h.row 4
      have f1 := frozenAt h.row 2
      have f3 := frozenAt h.row 4
      simp only [List.getElem?_toArray, List.getElem?_cons_zero, List.getElem?_cons_succ] at r1 r3
      clear s2 s4
      cases t1
      · cases t2
        · go_upto_region 3 with (fail)
          go_quiet (fail)
          go_upto_region 5 with (fail)
          go_quiet (fail)
          go_wp2
          go_roundw
          case rel => exact ⟨1, by decide, by go_num, .inr (.inl ⟨rfl, by have g1 := e1.out; have g2 := e2.out; simp at g1 g2; rw [show min a0 b0 = a0 from by omega, show max a2 b2 = a2 from by omega]; exact h.drewN _⟩)⟩
          case measure => simp [intOf]
        · go_upto_region 3 with (fail)
          go_quiet (fail)
          go_upto_region 5 with (fail)
          go_quiet (fail)
          go_upto_region 6 with (fail)
          go_region
          go_wp2
          go_roundw
          case rel => exact ⟨1, by decide, by go_num, .inr (.inl ⟨rfl, by have g1 := e1.out; have g2 := e2.out; simp at g1 g2; rw [show min a0 b0 = a0 from by omega, show max a2 b2 = b2 from by omega]; exact (h.drewN _).set 4 _⟩)⟩
          case measure => simp [intOf]
      · cases t2
        · go_upto_region 3 with (fail)
          go_quiet (fail)
          go_upto_region 4 with (fail)
          go_region
          go_upto_region 5 with (fail)
          go_quiet (fail)
          go_wp2
          go_roundw
          case rel => exact ⟨1, by decide, by go_num, .inr (.inl ⟨rfl, by have g1 := e1.out; have g2 := e2.out; simp at g1 g2; rw [show min a0 b0 = b0 from by omega, show max a2 b2 = a2 from by omega]; exact ((h.drewN _).set 2 _).drewN _⟩)⟩
          case measure => simp [intOf]
        · go_upto_region 3 with (fail)
          go_quiet (fail)
          go_upto_region 4 with (fail)
          go_region
          go_upto_region 5 with (fail)
          go_quiet (fail)
          go_upto_region 6 with (fail)
          go_region
          go_wp2
          go_roundw
          case rel => exact ⟨1, by decide, by go_num, .inr (.inl ⟨rfl, by have g1 := e1.out; have g2 := e2.out; simp at g1 g2; rw [show min a0 b0 = b0 from by omega, show max a2 b2 = b2 from by omega]; exact (((h.drewN _).set 2 _).drewN _).set 4 _⟩)⟩
          case measure => simp [intOf]
    · obtain ⟨t1, h1⟩ : ∃ t, (FloatKind.f64.format.order (fb b1) (fb a1) == some .lt) = t := ⟨_, rfl⟩
      have e1 : JR.StopN (t1 = decide (b1 < a1)) := ⟨h1.symm.trans (lt_fb hb1 ha1)⟩
      replace s1 := h.old s1 hne
      replace s2 := h.old s2 hne
      replace s3 := h.old s3 hne
      replace s4 := h.old s4 hne
      obtain ⟨t2, h2⟩ : ∃ t, (FloatKind.f64.format.order (fb b3) (fb a3) == some .gt) = t := ⟨_, rfl⟩
      have e2 : JR.StopN (t2 = decide (a3 < b3)) := ⟨h2.symm.trans (gt_fb hb3 ha3)⟩
      have r1 := cellAt h.row 3
      have r3 := cellAt h.row 5
      have f1 := frozenAt h.row 3
      have f3 := frozenAt h.row 5
      simp only [List.getElem?_toArray, List.getElem?_cons_zero, List.getElem?_cons_succ] at r1 r3
      clear s1 s3
      cases t1
      · cases t2
        · go_upto_region 3 with (fail)
          go_quiet (fail)
          go_upto_region 5 with (fail)
          go_quiet (fail)
          go_wp2
          go_roundw
          case rel => exact ⟨2, by decide, by go_num, .inr (.inr ⟨rfl, by have g1 := e1.out; have g2 := e2.out; simp at g1 g2; rw [show min a1 b1 = a1 from by omega, show max a3 b3 = a3 from by omega]; exact h.drewN _⟩)⟩
          case measure => simp [intOf]
        · go_upto_region 3 with (fail)
          go_quiet (fail)
          go_upto_region 5 with (fail)
          go_quiet (fail)
          go_upto_region 6 with (fail)
          go_region
          go_wp2
          go_roundw
          case rel => exact ⟨2, by decide, by go_num, .inr (.inr ⟨rfl, by have g1 := e1.out; have g2 := e2.out; simp at g1 g2; rw [show min a1 b1 = a1 from by omega, show max a3 b3 = b3 from by omega]; exact (h.drewN _).set 5 _⟩)⟩
          case measure => simp [intOf]
      · cases t2
        · go_upto_region 3 with (fail)
          go_quiet (fail)
          go_upto_region 4 with (fail)
          go_region
          go_upto_region 5 with (fail)
          go_quiet (fail)
          go_wp2
          go_roundw
          case rel => exact ⟨2, by decide, by go_num, .inr (.inr ⟨rfl, by have g1 := e1.out; have g2 := e2.out; simp at g1 g2; rw [show min a1 b1 = b1 from by omega, show max a3 b3 = a3 from by omega]; exact ((h.drewN _).set 3 _).drewN _⟩)⟩
          case measure => simp [intOf]
        · go_upto_region 3 with (fail)
          go_quiet (fail)
          go_upto_region 4 with (fail)
          go_region
          go_upto_region 5 with (fail)
          go_quiet (fail)
          go_upto_region 6 with (fail)
          go_region
          go_wp2
          go_roundw
          case rel => exact ⟨2, by decide, by go_num, .inr (.inr ⟨rfl, by have g1 := e1.out; have g2 := e2.out; simp at g1 g2; rw [show min a1 b1 = b1 from by omega, show max a3 b3 = b3 from by omega]; exact (((h.drewN _).set 3 _).drewN _).set 5 _⟩)⟩
          case measure => simp [intOf]
    · go_wp2
      go_end0
      exact ⟨rfl, h⟩
end Go.Proofs.YtlpibeloedfbdaaGreat
set_option linter.unusedSimpArgs false
set_option linter.unusedVariables false
/-! The r-tree of few segments, exactly: the tree. -/
namespace PF
def ifz (n : Nat) (x y : Int) : Int := if n = 0 then x else y
theorem inR_of {a0 a1 a2 a3 b0 b1 b2 b3 : Int} (h : inR a0 a1 a2 a3 b0 b1 b2 b3 = true) : a0 ≤ b0 ∧ b2 ≤ a2 ∧ a1 ≤ b1 ∧ b3 ≤ a3 := of_decide_eq_true h
end PF
namespace Go.Proofs.YtlpibeloedfbdaaGreat
open Go.RowKit PF JR
/-- the cells of a node that holds n entries, the numbers 0 .. n-1 -/
def NodA (cs : Array Value) (n : Nat) : Prop := cs.size = 86 ∧ cs[0]? = some (.int .i64 n) ∧ ∀ i, i < n → cs[1 + i * 5]? = some (.iface 3 (.int .i64 i))
theorem NodA.put {cs : Array Value} {n b0 b1 b2 b3 : Nat} (hs : cs.size = 86) (hc0 : cs[0]? = some (.int .i64 n)) (hci : ∀ i, i < n → cs[1 + i * 5]? = some (.iface 3 (.int .i64 i))) (hn : n ≤ 15) :
    (((((cs.setIfInBounds (1 + n * 5) (.iface 3 (.int .i64 n))).setIfInBounds (1 + n * 5 + 1) (.float .f64 b0)).setIfInBounds (1 + n * 5 + 2) (.float .f64 b1)).setIfInBounds (1 + n * 5 + 3) (.float .f64 b2)).setIfInBounds (1 + n * 5 + 4) (.float .f64 b3))[0]? = some (.int .i64 n) ∧
    NodA ((((((cs.setIfInBounds (1 + n * 5) (.iface 3 (.int .i64 n))).setIfInBounds (1 + n * 5 + 1) (.float .f64 b0)).setIfInBounds (1 + n * 5 + 2) (.float .f64 b1)).setIfInBounds (1 + n * 5 + 3) (.float .f64 b2)).setIfInBounds (1 + n * 5 + 4) (.float .f64 b3)).setIfInBounds 0 (.int .i64 (n + 1 : Nat))) (n + 1) := by
  refine ⟨?_, ?_, ?_, ?_⟩
  · simpa [Array.getElem?_setIfInBounds] using hc0
  · simp [hs]
  · rw [Array.getElem?_setIfInBounds]
    simp [hs]
  · intro i hi
    rcases Nat.lt_or_ge i n with h | h
    · simp only [Array.getElem?_setIfInBounds]
      rw [if_neg (by omega), if_neg (by omega), if_neg (by omega), if_neg (by omega), if_neg (by omega), if_neg (by omega)]
      exact hci i h
    · have : i = n := by omega
      subst this
      simp only [Array.getElem?_setIfInBounds]
      rw [if_neg (by omega), if_neg (by omega), if_neg (by omega), if_neg (by omega), if_neg (by omega), if_pos trivial, if_pos (by omega)]
theorem Rec4.row {w : World} {R : Nat} {cs : Array Value} {T : TypeId} (h : w.heap[R]? = some (.cells cs T (0, 0))) {o a b c d : Nat} (h1 : cs[o + 1]? = some (fl a)) (h2 : cs[o + 1 + 1]? = some (fl b)) (h3 : cs[o + 3]? = some (fl c)) (h4 : cs[o + 3 + 1]? = some (fl d)) : Rec4 w R o a b c d :=
  ⟨(cellAt h _).trans h1, (cellAt h _).trans h2, (cellAt h _).trans h3, (cellAt h _).trans h4⟩
set_option maxRecDepth 100000 in
set_option maxHeartbeats 4000000 in
theorem rinsert_c (R B N n : Nat) (a0 a1 a2 a3 b0 b1 b2 b3 : Int) (hRd : Bd4 a0 a1 a2 a3) (hBd : Bd4 b0 b1 b2 b3) (x0 x6 x7 : Value) (cs : Array Value) (T : TypeId) (w : World)
    (hR : w.heap[R]? = some (.cells #[x0, .iface 129 (.pointer (some ⟨N, 0, none⟩)), fl (fb a0), fl (fb a1), fl (fb a2), fl (fb a3), x6, x7] T (0, 0)))
    (hB : w.heap[B]? = some (.cells #[.iface 3 (.int .i64 n), fl (fb b0), fl (fb b1), fl (fb b2), fl (fb b3)] 99 (0, 0)))
    (hN : w.heap[N]? = some (.cells cs 132 (0, 0))) (hA : NodA cs n) (hn : n ≤ 15) (hRN : R ≠ N) (hBN : B ≠ N) :
    Calls Tryz.prog 60 #[.pointer (some ⟨R, 1, none⟩), .pointer (some ⟨B, 0, none⟩), .int .i64 0] w fun e w' => ∃ cs', e = .returned (.bool (!inR a0 a1 a2 a3 b0 b1 b2 b3)) ∧ NodA cs' (n + 1) ∧ Rw w w' N cs' 132 := by
  have ha := asNode
  obtain ⟨hs, hc0, hci⟩ := hA
  have r0 := cellAt hR 1
  have s0 := cellAt hB 0
  have s1 := cellAt hB 1
  have s2 := cellAt hB 2
  have s3 := cellAt hB 3
  have s4 := cellAt hB 4
  simp only [List.getElem?_toArray, List.getElem?_cons_zero, List.getElem?_cons_succ] at r0 s0 s1 s2 s3 s4
  have n0 := (cellAt hN 0).trans hc0
  have hr0 := Rw.refl hN
  obtain ⟨y0, z0⟩ := hr0.cell (1 + n * 5) (by omega)
  obtain ⟨y1, z1⟩ := hr0.cell (1 + n * 5 + 1) (by omega)
  obtain ⟨y2, z2⟩ := hr0.cell (1 + n * 5 + 2) (by omega)
  obtain ⟨y3, z3⟩ := hr0.cell (1 + n * 5 + 3) (by omega)
  obtain ⟨y4, z4⟩ := hr0.cell (1 + n * 5 + 4) (by omega)
  have f0 := frozenAt hN (1 + n * 5)
  have f1 := frozenAt hN (1 + n * 5 + 1)
  have f2 := frozenAt hN (1 + n * 5 + 2)
  have f3 := frozenAt hN (1 + n * 5 + 3)
  have f4 := frozenAt hN (1 + n * 5 + 4)
  have fc := frozenAt hN 0
  go_enter Tryz.func60, Tryz.ntmps60
  go_upto_region 3 with (fail)
  go_region
  have hr5 := (((((hr0.set (1 + n * 5) (.iface 3 (.int .i64 n))).set (1 + n * 5 + 1) (.float .f64 (fb b0))).set (1 + n * 5 + 2) (.float .f64 (fb b1))).set (1 + n * 5 + 3) (.float .f64 (fb b2))).set (1 + n * 5 + 4) (.float .f64 (fb b3))).drew
  have hA5 := NodA.put (b0 := fb b0) (b1 := fb b1) (b2 := fb b2) (b3 := fb b3) hs hc0 hci hn
  generalize ((((cs.setIfInBounds (1 + n * 5) (.iface 3 (.int .i64 n))).setIfInBounds (1 + n * 5 + 1) (.float .f64 (fb b0))).setIfInBounds (1 + n * 5 + 2) (.float .f64 (fb b1))).setIfInBounds (1 + n * 5 + 3) (.float .f64 (fb b2))).setIfInBounds (1 + n * 5 + 4) (.float .f64 (fb b3)) = cs5 at *
  obtain ⟨h5, hA5⟩ := hA5
  generalize (((((w.setCell ⟨N, 1 + n * 5, none⟩ (.iface 3 (.int .i64 n))).setCell ⟨N, 1 + n * 5 + 1, none⟩ (.float .f64 (fb b0))).setCell ⟨N, 1 + n * 5 + 2, none⟩ (.float .f64 (fb b1))).setCell ⟨N, 1 + n * 5 + 3, none⟩ (.float .f64 (fb b2))).setCell ⟨N, 1 + n * 5 + 4, none⟩ (.float .f64 (fb b3))).drew = w5 at *
  clear z0 z1 z2 z3 z4 f0 f1 f2 f3 f4 fc n0 r0 s0 s1 s2 s3 s4 hci hc0 hs hr0 hN
  have n0 := (cellAt hr5.row 0).trans h5
  have fc := frozenAt hr5.row 0
  have hr6 := hr5.set 0 (.int .i64 (n + 1 : Nat))
  have hR6 := (hr6.kp.block R (lt_of_some hR) (by simpa using hRN)).trans hR
  have hB6 := (hr6.kp.block B (lt_of_some hB) (by simpa using hBN)).trans hB
  have hc := contains_c R 1 B 0 a0 a1 a2 a3 b0 b1 b2 b3 hRd hBd _ (Rec4.row hR6 rfl rfl rfl rfl) (Rec4.row hB6 rfl rfl rfl rfl)
  clear hR hB hR6 hB6
  go_wp2_with (go_at_call 66; refine JR.StopN.out ?_)
  refine ⟨?_⟩
  refine hc.mono ?_
  rintro e w7 ⟨rfl, hb⟩
  generalize hgt : inR a0 a1 a2 a3 b0 b1 b2 b3 = t
  clear hc n0 fc
  go_wp2
  go_ret
  exact ⟨_, by rw [hgt]; rfl, hA5, hr6.ext hb⟩
/-- a tree with a root node -/
def TreeV (w : World) (t N n : Nat) (a b c d : Int) : Prop := N ≠ t ∧ w.heap[t]? = some (.cells #[.int .i64 0, .iface 129 (.pointer (some ⟨N, 0, none⟩)), fl (fb a), fl (fb b), fl (fb c), fl (fb d), .int .i64 n, .slice none 0 0] 102 (0, 0)) ∧ ∃ cs, NodA cs n ∧ w.heap[N]? = some (.cells cs 132 (0, 0))
/-- a tree that holds n entries -/
def TreeS (w : World) (t base n : Nat) (a b c d : Int) : Prop :=
  (n = 0 ∧ w.heap[t]? = some (.cells #[.int .i64 0, .nilIface, fl 0, fl 0, fl 0, fl 0, .int .i64 0, .slice none 0 0] 102 (0, 0))) ∨ (∃ N, base ≤ N ∧ n ≠ 0 ∧ TreeV w t N n a b c d)
theorem TreeV.below {w u : World} {t N n : Nat} {a b c d : Int} (h : TreeV w t N n a b c d) (hb : Below w.heap.size w u) : TreeV u t N n a b c d := by
  obtain ⟨h0, h1, cs, h2, h3⟩ := h
  exact ⟨h0, (hb.block _ (lt_of_some h1)).trans h1, cs, h2, (hb.block _ (lt_of_some h3)).trans h3⟩
set_option maxRecDepth 100000 in
set_option maxHeartbeats 4000000 in
theorem tinsV_c (t B N n base : Nat) (a0 a1 a2 a3 b0 b1 b2 b3 : Int) (hRd : Bd4 a0 a1 a2 a3) (hBd : Bd4 b0 b1 b2 b3) (w : World) (hT : TreeV w t N n a0 a1 a2 a3) (hB : w.heap[B]? = some (.cells #[.iface 3 (.int .i64 n), fl (fb b0), fl (fb b1), fl (fb b2), fl (fb b3)] 99 (0, 0))) (hn : n ≤ 15) (hBt : B ≠ t) (hBN : B ≠ N) (hbt : base ≤ t) (hbN : base ≤ N) (hbs : base ≤ w.heap.size) :
    Calls Tryz.prog 53 #[.pointer (some ⟨t, 0, none⟩), .pointer (some ⟨B, 0, none⟩)] w fun e w' => e = .returned (.tuple #[]) ∧ TreeV w' t N (n + 1) (min a0 b0) (min a1 b1) (max a2 b2) (max a3 b3) ∧ Below base w w' := by
  have hin := ifNil
  obtain ⟨hNt, hR, cs, hA, hN⟩ := hT
  have r0 := cellAt hR 0
  have r1 := cellAt hR 1
  simp only [List.getElem?_toArray, List.getElem?_cons_zero, List.getElem?_cons_succ] at r0 r1
  go_enter Tryz.func53, Tryz.ntmps53
  have hBW := Below.refl base w
  go_upto_region 2 with (fail)
  go_still_tail 8, (by kernel_rfl)
  change wpList _ _ _ _ _ w.drew
  have hb1 : Below w.heap.size w w.drew := (Below.refl _ w).drew
  have hs1 : w.drew.heap.size = w.heap.size := rfl
  generalize w.drew = w1 at *
  have hR1 := (hb1.block t (lt_of_some hR)).trans hR
  have hB1 := (hb1.block B (lt_of_some hB)).trans hB
  have hN1 := (hb1.block N (lt_of_some hN)).trans hN
  have hB01 : Below base w w1 := hBW.trans (hb1.mono (Nat.le_trans hbs hBW.size))
  clear r0 r1 hR hB hN hin
  go_wp2_with (go_at_call 60; refine JR.StopN.out ?_)
  refine ⟨?_⟩
  refine (rinsert_c t B N n a0 a1 a2 a3 b0 b1 b2 b3 hRd hBd _ _ _ cs _ w1 hR1 hB1 hN1 hA hn (Ne.symm hNt) hBN).mono ?_
  rintro e w2 ⟨cs2, rfl, hA2, hr2⟩
  generalize htb : (!inR a0 a1 a2 a3 b0 b1 b2 b3) = tb
  replace htb : JR.StopN ((!inR a0 a1 a2 a3 b0 b1 b2 b3) = tb) := ⟨htb⟩
  have hR2 := (hr2.kp.block t (lt_of_some hR1) (by simpa using Ne.symm hNt)).trans hR1
  have hB2 := (hr2.kp.block B (lt_of_some hB1) (by simpa using hBN)).trans hB1
  have hN2 := hr2.row
  have hB02 : Below base w w2 := hB01.trans (hr2.below (Nat.le_trans hbs hB01.size) hbN)
  clear hR1 hB1 hN1 hr2 hA hB01 hb1
  have ha := asNode
  have h17 : ((n + 1 : Nat) : Int) ≠ 17 := by omega
  cases tb
  · have r1 := cellAt hR2 1
    have r6 := cellAt hR2 6
    have f6 := frozenAt hR2 6
    have n0 := (cellAt hN2 0).trans hA2.2.1
    simp only [List.getElem?_toArray, List.getElem?_cons_zero, List.getElem?_cons_succ] at r1 r6
    go_wp2
    go_end0
    have hR3 := (Rw.refl hR2).set 6 (.int .i64 (n + 1 : Nat))
    have hi := inR_of (by simpa using htb.out)
    rw [show min a0 b0 = a0 from by omega, show min a1 b1 = a1 from by omega, show max a2 b2 = a2 from by omega, show max a3 b3 = a3 from by omega]
    exact ⟨rfl, ⟨hNt, hR3.row, _, hA2, (hR3.kp.block N (lt_of_some hN2) (by simpa using hNt)).trans hN2⟩, hB02.trans (hR3.below (Nat.le_trans hbs hB02.size) hbt)⟩
  · go_wp2_with (go_at_call 61; refine JR.StopN.out ?_)
    refine ⟨?_⟩
    refine (expand_c t B 0 a0 a1 a2 a3 b0 b1 b2 b3 hRd hBd _ _ _ _ _ w2 hR2 (Rec4.row hB2 rfl rfl rfl rfl) hBt).mono ?_
    rintro e w3 ⟨rfl, hr3⟩
    have hR3 := hr3.row
    have hN3 := (hr3.kp.block N (lt_of_some hN2) (by simpa using hNt)).trans hN2
    have hB03 := hB02.trans (hr3.below (Nat.le_trans hbs hB02.size) hbt)
    clear hR2 hN2 hB2 hr3 hB02
    have r1 := cellAt hR3 1
    have r6 := cellAt hR3 6
    have f6 := frozenAt hR3 6
    have n0 := (cellAt hN3 0).trans hA2.2.1
    simp only [List.getElem?_toArray, List.getElem?_cons_zero, List.getElem?_cons_succ] at r1 r6
    go_wp2
    go_end0
    have hR4 := (Rw.refl hR3).set 6 (.int .i64 (n + 1 : Nat))
    exact ⟨rfl, ⟨hNt, hR4.row, _, hA2, (hR4.kp.block N (lt_of_some hN3) (by simpa using hNt)).trans hN3⟩, hB03.trans (hR4.below (Nat.le_trans hbs hB03.size) hbt)⟩


set_option maxRecDepth 100000 in
set_option maxHeartbeats 4000000 in
theorem tins0_c (t B base : Nat) (b0 b1 b2 b3 : Int) (hBd : Bd4 b0 b1 b2 b3) (w : World) (hT : w.heap[t]? = some (.cells #[.int .i64 0, .nilIface, fl 0, fl 0, fl 0, fl 0, .int .i64 0, .slice none 0 0] 102 (0, 0))) (hB : w.heap[B]? = some (.cells #[.iface 3 (.int .i64 (0 : Nat)), fl (fb b0), fl (fb b1), fl (fb b2), fl (fb b3)] 99 (0, 0))) (hBt : B ≠ t) (hbt : base ≤ t) (hbs : base ≤ w.heap.size) :
    Calls Tryz.prog 53 #[.pointer (some ⟨t, 0, none⟩), .pointer (some ⟨B, 0, none⟩)] w fun e w' => e = .returned (.tuple #[]) ∧ (∃ N, base ≤ N ∧ TreeV w' t N 1 b0 b1 b2 b3) ∧ Below base w w' := by
  have hnn := nilNil
  have r0 := cellAt hT 0
  have r1 := cellAt hT 1
  simp only [List.getElem?_toArray, List.getElem?_cons_zero, List.getElem?_cons_succ] at r0 r1
  go_enter Tryz.func53, Tryz.ntmps53
  go_upto_region 1 with (fail)
  have hw1 : Below w.heap.size w (w.alloc (.cells Tryz.zeroCells132 132)).drew := ((Below.refl _ w).alloc (Nat.le_refl _) _).drew
  have hfit := fit_c B 1 2 B 3 2 t 1 _ 102 (fb b0) (fb b1) (fb b2) (fb b3) 129 (.pointer (some ⟨w.heap.size, 0, none⟩)) (w.alloc (.cells Tryz.zeroCells132 132)).drew
    ((cellAt ((hw1.block B (lt_of_some hB)).trans hB) 1).trans rfl) ((cellAt ((hw1.block B (lt_of_some hB)).trans hB) 2).trans rfl) ((cellAt ((hw1.block B (lt_of_some hB)).trans hB) 3).trans rfl) ((cellAt ((hw1.block B (lt_of_some hB)).trans hB) 4).trans rfl)
    ((hw1.block t (lt_of_some hT)).trans hT) hBt hBt (by decide)
  go_cut [] from 12 to 25 (fun wy => Rw (w.alloc (.cells Tryz.zeroCells132 132)).drew wy t #[.int .i64 0, .iface 129 (.pointer (some ⟨w.heap.size, 0, none⟩)), fl (fb b0), fl (fb b1), fl (fb b2), fl (fb b3), .int .i64 0, .slice none 0 0] 102)
  case first =>
    go_region_with (go_at_call 52; refine hfit.mono ?_; rintro e w2 ⟨rfl, hr2⟩)
    go_wp2
    go_meet
    exact hr2
  case rest =>
  clear hfit r0 r1
  have hNt : w.heap.size ≠ t := by have := lt_of_some hT; omega
  have hBN : B ≠ w.heap.size := by have := lt_of_some hB; omega
  have hB' := (hcut.kp.block B (by simp; have := lt_of_some hB; omega) (by simpa using hBt)).trans ((hw1.block B (lt_of_some hB)).trans hB)
  have hN' : wc.heap[w.heap.size]? = some (.cells Tryz.zeroCells132 132 (0, 0)) := (hcut.kp.block _ (by simp) (by simpa using hNt)).trans (heap_alloc_new w _)
  have hA : NodA Tryz.zeroCells132 0 := ⟨rfl, rfl, fun i hi => absurd hi (Nat.not_lt_zero _)⟩
  have hBW : Below base w wc := (hw1.mono hbs).trans (hcut.below (by simp; omega) hbt)
  have hR := hcut.row
  have hbN : base ≤ w.heap.size := hbs
  replace hB := hB'
  have hN := hN'
  clear hB' hN' hcut hw1 hT
  generalize w.heap.size = N at hNt hBN hN hR hbN ⊢
  have hn : 0 ≤ 15 := by decide
  generalize Tryz.zeroCells132 = cs at *
  have r0 := cellAt hR 0
  simp only [List.getElem?_toArray, List.getElem?_cons_zero] at r0
  go_upto_region 2 with (fail)
  go_still_tail 8, (by kernel_rfl)
  change wpList _ _ _ _ _ wc.drew
  have hb1 : Below wc.heap.size wc wc.drew := (Below.refl _ wc).drew
  have hs1 : wc.drew.heap.size = wc.heap.size := rfl
  generalize wc.drew = w1 at *
  have hR1 := (hb1.block t (lt_of_some hR)).trans hR
  have hB1 := (hb1.block B (lt_of_some hB)).trans hB
  have hN1 := (hb1.block N (lt_of_some hN)).trans hN
  have hB01 : Below base w w1 := hBW.trans (hb1.mono (Nat.le_trans hbs hBW.size))
  clear r0 hR hB hN hnn
  go_wp2_with (go_at_call 60; refine JR.StopN.out ?_)
  refine ⟨?_⟩
  refine (rinsert_c t B N 0 b0 b1 b2 b3 b0 b1 b2 b3 hBd hBd _ _ _ cs _ w1 hR1 hB1 hN1 hA hn (Ne.symm hNt) hBN).mono ?_
  rintro e w2 ⟨cs2, rfl, hA2, hr2⟩
  generalize htb : (!inR b0 b1 b2 b3 b0 b1 b2 b3) = tb
  replace htb : JR.StopN ((!inR b0 b1 b2 b3 b0 b1 b2 b3) = tb) := ⟨htb⟩
  have hR2 := (hr2.kp.block t (lt_of_some hR1) (by simpa using Ne.symm hNt)).trans hR1
  have hB2 := (hr2.kp.block B (lt_of_some hB1) (by simpa using hBN)).trans hB1
  have hN2 := hr2.row
  have hB02 : Below base w w2 := hB01.trans (hr2.below (Nat.le_trans hbs hB01.size) hbN)
  clear hR1 hB1 hN1 hr2 hA hB01 hb1
  have ha := asNode
  have h17 : ((0 + 1 : Nat) : Int) ≠ 17 := by omega
  cases tb
  · have r1 := cellAt hR2 1
    have r6 := cellAt hR2 6
    have f6 := frozenAt hR2 6
    have n0 := (cellAt hN2 0).trans hA2.2.1
    simp only [List.getElem?_toArray, List.getElem?_cons_zero, List.getElem?_cons_succ] at r1 r6
    go_wp2
    go_end0
    have hR3 := (Rw.refl hR2).set 6 (.int .i64 (0 + 1 : Nat))
    exact ⟨rfl, ⟨N, hbN, ⟨hNt, hR3.row, _, hA2, (hR3.kp.block N (lt_of_some hN2) (by simpa using hNt)).trans hN2⟩⟩, hB02.trans (hR3.below (Nat.le_trans hbs hB02.size) hbt)⟩
  · go_wp2_with (go_at_call 61; refine JR.StopN.out ?_)
    refine ⟨?_⟩
    refine (expand_c t B 0 b0 b1 b2 b3 b0 b1 b2 b3 hBd hBd _ _ _ _ _ w2 hR2 (Rec4.row hB2 rfl rfl rfl rfl) hBt).mono ?_
    rintro e w3 ⟨rfl, hr3⟩
    have hR3 := hr3.row
    have hN3 := (hr3.kp.block N (lt_of_some hN2) (by simpa using hNt)).trans hN2
    have hB03 := hB02.trans (hr3.below (Nat.le_trans hbs hB02.size) hbt)
    clear hR2 hN2 hB2 hr3 hB02
    have r1 := cellAt hR3 1
    have r6 := cellAt hR3 6
    have f6 := frozenAt hR3 6
    have n0 := (cellAt hN3 0).trans hA2.2.1
    simp only [List.getElem?_toArray, List.getElem?_cons_zero, List.getElem?_cons_succ] at r1 r6
    go_wp2
    go_end0
    have hR4 := (Rw.refl hR3).set 6 (.int .i64 (0 + 1 : Nat))
    exact ⟨rfl, ⟨N, hbN, ⟨hNt, by simpa using hR4.row, _, hA2, (hR4.kp.block N (lt_of_some hN3) (by simpa using hNt)).trans hN3⟩⟩, hB03.trans (hR4.below (Nat.le_trans hbs hB03.size) hbt)⟩

/-- a tree of n entries takes one more -/
theorem tins_c (t B n base : Nat) (a0 a1 a2 a3 b0 b1 b2 b3 : Int) (hRd : Bd4 a0 a1 a2 a3) (hBd : Bd4 b0 b1 b2 b3) (w : World) (hT : TreeS w t base n a0 a1 a2 a3) (hB : w.heap[B]? = some (.cells #[.iface 3 (.int .i64 n), fl (fb b0), fl (fb b1), fl (fb b2), fl (fb b3)] 99 (0, 0))) (hn : n ≤ 15) (hBt : B ≠ t) (hNB : ∀ N cs, B = N → w.heap[N]? = some (.cells cs 132 (0, 0)) → False) (hbt : base ≤ t) (hbs : base ≤ w.heap.size) :
    Calls Tryz.prog 53 #[.pointer (some ⟨t, 0, none⟩), .pointer (some ⟨B, 0, none⟩)] w fun e w' => e = .returned (.tuple #[]) ∧ TreeS w' t base (n + 1) (ifz n b0 (min a0 b0)) (ifz n b1 (min a1 b1)) (ifz n b2 (max a2 b2)) (ifz n b3 (max a3 b3)) ∧ Below base w w' := by
  rcases hT with ⟨rfl, hT⟩ | ⟨N, hbN, hn0, hT⟩
  · refine (tins0_c t B base b0 b1 b2 b3 hBd w hT hB hBt hbt hbs).mono ?_
    rintro e w' ⟨rfl, ⟨N, h1, h2⟩, h3⟩
    exact ⟨rfl, .inr ⟨N, h1, by decide, h2⟩, h3⟩
  · obtain ⟨cs, -, hN⟩ := hT.2.2
    refine (tinsV_c t B N n base a0 a1 a2 a3 b0 b1 b2 b3 hRd hBd w hT hB hn hBt (fun h => hNB N cs h hN) hbt hbN hbs).mono ?_
    rintro e w' ⟨rfl, h2, h3⟩
    have ez : ∀ x y : Int, ifz n x y = y := fun x y => if_neg hn0
    rw [ez, ez, ez, ez]
    exact ⟨rfl, .inr ⟨N, hbN, by omega, h2⟩, h3⟩

theorem TreeS.below {w u : World} {t base n : Nat} {a b c d : Int} (h : TreeS w t base n a b c d) (hb : Below w.heap.size w u) : TreeS u t base n a b c d := by
  rcases h with ⟨h0, h⟩ | ⟨N, h0, hz, h⟩
  · exact .inl ⟨h0, (hb.block _ (lt_of_some h)).trans h⟩
  · exact .inr ⟨N, h0, hz, h.below hb⟩
theorem TreeS.lt {w : World} {t base n : Nat} {a b c d : Int} (h : TreeS w t base n a b c d) : t < w.heap.size := by
  rcases h with ⟨h0, h⟩ | ⟨N, h0, hz, h⟩
  · exact lt_of_some h
  · obtain ⟨-, h1, -⟩ := h
    exact lt_of_some h1
theorem TreeV.nlt {w : World} {t N n : Nat} {a b c d : Int} (h : TreeV w t N n a b c d) : N < w.heap.size := by
  obtain ⟨-, -, cs, -, h1⟩ := h
  exact lt_of_some h1

set_option maxRecDepth 100000 in
set_option maxHeartbeats 4000000 in
theorem tInsert_c (t n base P p c Q q d : Nat) (r0 r1 r2 r3 a0 a1 b0 b1 : Int) (hRd : Bd4 r0 r1 r2 r3) (hBd : Bd4 a0 a1 b0 b1) (w : World) (hT : TreeS w t base n r0 r1 r2 r3) (hn : n ≤ 15)
    (p0 : w.cell? ⟨P, p, none⟩ = some (fl (fb a0))) (p1 : w.cell? ⟨P, p + 1, none⟩ = some (fl (fb a1))) (q0 : w.cell? ⟨Q, q, none⟩ = some (fl (fb b0))) (q1 : w.cell? ⟨Q, q + 1, none⟩ = some (fl (fb b1))) (hbt : base ≤ t) (hbs : base ≤ w.heap.size) :
    Calls Tryz.prog 47 #[.pointer (some ⟨t, 0, none⟩), .slice (some ⟨P, p, none⟩) 2 c, .slice (some ⟨Q, q, none⟩) 2 d, .iface 3 (.int .i64 n)] w fun e w' => e = .returned (.tuple #[]) ∧ TreeS w' t base (n + 1) (ifz n a0 (min r0 a0)) (ifz n a1 (min r1 a1)) (ifz n b0 (max r2 b0)) (ifz n b1 (max r3 b1)) ∧ Below base w w' := by
  have hP : P < w.heap.size := World.block_lt_of_cell? w _ p0
  have hQ : Q < w.heap.size := World.block_lt_of_cell? w _ q0
  have hw1 : Below w.heap.size w (w.alloc (.cells #[.nilIface, fl 0, fl 0, fl 0, fl 0] 99)) := (Below.refl _ w).alloc (Nat.le_refl _) _
  have hT1 := hT.below hw1
  have hfit := fit_c P p c Q q d w.heap.size 0 _ 99 (fb a0) (fb a1) (fb b0) (fb b1) 3 (.int .i64 n) (w.alloc (.cells #[.nilIface, fl 0, fl 0, fl 0, fl 0] 99))
    ((hw1.cell hP).trans p0) ((hw1.cell hP).trans p1) ((hw1.cell hQ).trans q0) ((hw1.cell hQ).trans q1) (heap_alloc_new w _) (Nat.ne_of_lt hP) (Nat.ne_of_lt hQ) (by decide)
  clear p0 p1 q0 q1
  go_enter Tryz.func47, Tryz.ntmps47
  go_wp2_with (go_at_call 52; refine JR.StopN.out ?_)
  refine ⟨?_⟩
  refine hfit.mono ?_
  rintro e w2 ⟨rfl, hr2⟩
  have hB2 := hr2.below (base := w.heap.size) (by simp) (Nat.le_refl _)
  have hs2 := hB2.size
  have hT2 : TreeS w2 t base n r0 r1 r2 r3 := hT.below (hw1.trans hB2)
  have hB02 : Below base w w2 := (hw1.trans hB2).mono hbs
  clear hfit hT1
  have hR2 : w2.heap[w.heap.size]? = some (.cells #[.iface 3 (.int .i64 n), fl (fb a0), fl (fb a1), fl (fb b0), fl (fb b1)] 99 (0, 0)) := hr2.row
  have hins := tins_c t w.heap.size n base r0 r1 r2 r3 a0 a1 b0 b1 hRd hBd w2 hT2 hR2 hn (Nat.ne_of_gt hT.lt) (fun N cs h1 h2 => by subst h1; rw [hR2] at h2; simp at h2) hbt (Nat.le_trans hbs hB02.size)
  clear hr2 hB2
  go_wp2_with (go_at_call 53; refine JR.StopN.out ?_)
  refine ⟨?_⟩
  refine hins.mono ?_
  rintro e w3 ⟨rfl, hT3, hB3⟩
  go_wp2
  go_end0
  exact ⟨rfl, hT3, hB02.trans hB3⟩
end Go.Proofs.YtlpibeloedfbdaaGreat
set_option linter.unusedSimpArgs false
set_option linter.unusedVariables false
/-! The index as bytes, exactly. -/
namespace PF
open Go Go.RowKit JR
theorem fb_lt (n : Int) (hn : n.natAbs ≤ 1000000) : fb n < 18446744073709551616 := by
  obtain ⟨r, h1, h2, h3⟩ := fb_word n (by omega)
  rw [h1]
  have e : Ieee.double.signWeight = 9223372036854775808 := by decide +kernel
  unfold Ieee.Format.word
  rw [e]
  split <;> omega
/-- an r-tree of one node, as bytes -/
def rbytes (a0 a1 a2 a3 : Int) (n : Nat) : List Nat := le8 (fb a0) ++ (le8 (fb a1) ++ (le8 (fb a2) ++ (le8 (fb a3) ++ (n :: 1 :: List.range n))))
/-- a tree as bytes -/
def tby (a0 a1 a2 a3 : Int) (n : Nat) : List Nat := if n = 0 then [] else 0 :: rbytes a0 a1 a2 a3 n
/-- a quad tree of one node, as bytes -/
def qbytes (n : Nat) : List Nat := 1 :: n :: (List.range n ++ [0])
theorem le8_len (x : Nat) : (le8 x).length = 8 := rfl
theorem range_snoc (l : List Nat) (j : Nat) : l ++ List.range (j + 1) = l ++ List.range j ++ [j] := by rw [List.range_succ, List.append_assoc]
end PF
namespace Go.Proofs.YtlpibeloedfbdaaGreat
open Go.RowKit PF JR
/-- the node in block N holds cnt rectangles; their data are small numbers -/
def NodV (w : World) (N cnt : Nat) : Prop :=
  w.cell? ⟨N, 0, none⟩ = some (.int .i64 cnt) ∧ cnt ≤ 16 ∧ ∀ i : Nat, i < cnt → w.cell? ⟨N, 1 + i * 5, none⟩ = some (.iface 3 (.int .i64 i))
theorem NodV.below {w w' : World} {N cnt B : Nat} (h : NodV w N cnt) (hN : N < B) (hb : Below B w w') : NodV w' N cnt := by
  obtain ⟨h1, h3, h4⟩ := h
  have e : ∀ o, w'.cell? ⟨N, o, none⟩ = w.cell? ⟨N, o, none⟩ := fun o => World.cell?_of_block (hb.block N hN)
  exact ⟨(e _).trans h1, h3, fun i hi => (e _).trans (h4 i hi)⟩

set_option maxRecDepth 100000 in
set_option maxHeartbeats 4000000 in
theorem rcompress_c (N cnt R o : Nat) (a0 a1 a2 a3 : Int) (hRd : Bd4 a0 a1 a2 a3) (base : Nat) (v : Value) (bs : List Nat) (w : World) (hN : NodV w N cnt) (hNb : N < base) (hRb : R < base)
    (r0 : w.cell? ⟨R, o, none⟩ = some (.iface 129 (.pointer (some ⟨N, 0, none⟩)))) (r1 : w.cell? ⟨R, o + 1, none⟩ = some (fl (fb a0))) (r2 : w.cell? ⟨R, o + 1 + 1, none⟩ = some (fl (fb a1))) (r3 : w.cell? ⟨R, o + 3, none⟩ = some (fl (fb a2))) (r4 : w.cell? ⟨R, o + 3 + 1, none⟩ = some (fl (fb a3)))
    (hv : Bys w base v bs) (hn : bs.length ≤ 1000) (hbs : base ≤ w.heap.size) :
    Calls Tryz.prog 55 #[.pointer (some ⟨R, o, none⟩), v, .int .i64 0] w fun e w' => ∃ v', e = .returned v' ∧ Bys w' base v' (bs ++ rbytes a0 a1 a2 a3 cnt) ∧ Below base w w' := by
  obtain ⟨z0, z1, z2, z3⟩ := hRd
  have l0 := fb_lt a0 z0
  have l1 := fb_lt a1 z1
  have l2 := fb_lt a2 z2
  have l3 := fb_lt a3 z3
  have ha := asNode
  have hN0 := hN
  have er : JR.StopN (∀ u, Below base w u → ∀ k, u.cell? ⟨R, k, none⟩ = w.cell? ⟨R, k, none⟩) := ⟨fun u hu k => World.cell?_of_block (hu.block R hRb)⟩
  go_enter Tryz.func55, Tryz.ntmps55
  go_wp2_with (go_at_call 64; refine JR.StopN.out ?_)
  refine ⟨?_⟩
  refine (appendFloat_c _ base l0 v bs w hv (by omega) hbs).mono ?_
  rintro e w1 ⟨v1, rfl, hv1, hb1⟩
  have q2 : w1.cell? ⟨R, o + 2, none⟩ = some (fl (fb a1)) := (er.out w1 hb1 _).trans r2
  have q2' : w1.cell? ⟨R, o + 1 + 1, none⟩ = some (fl (fb a1)) := q2
  clear r1 r2 hv
  go_wp2_with (go_at_call 64; refine JR.StopN.out ?_)
  refine ⟨?_⟩
  refine (appendFloat_c _ base l1 v1 (bs ++ le8 (fb a0)) w1 hv1 (by simp [le8_len]; omega) (Nat.le_trans hbs hb1.size)).mono ?_
  rintro e w2 ⟨v2, rfl, hv2, hb2⟩
  have hB2 := hb1.trans hb2
  have q3 := (er.out w2 hB2 _).trans r3
  clear q2 q2' hb1 hb2 hv1 r3
  go_wp2_with (go_at_call 64; refine JR.StopN.out ?_)
  refine ⟨?_⟩
  refine (appendFloat_c _ base l2 v2 (bs ++ le8 (fb a0) ++ le8 (fb a1)) w2 hv2 (by simp [le8_len]; omega) (Nat.le_trans hbs hB2.size)).mono ?_
  rintro e w3 ⟨v3, rfl, hv3, hb3⟩
  have hB3 := hB2.trans hb3
  have q4 : w3.cell? ⟨R, o + 4, none⟩ = some (fl (fb a3)) := (er.out w3 hB3 _).trans r4
  have q4' : w3.cell? ⟨R, o + 3 + 1, none⟩ = some (fl (fb a3)) := q4
  clear q3 hB2 hb3 hv2 r4
  go_wp2_with (go_at_call 64; refine JR.StopN.out ?_)
  refine ⟨?_⟩
  refine (appendFloat_c _ base l3 v3 (bs ++ le8 (fb a0) ++ le8 (fb a1) ++ le8 (fb a2)) w3 hv3 (by simp [le8_len]; omega) (Nat.le_trans hbs hB3.size)).mono ?_
  rintro e w4 ⟨v4, rfl, hv4, hb4⟩
  have hB4 := hB3.trans hb4
  clear q4 q4' hB3 hb4 hv3 er r0
  obtain ⟨k0, k2, k3⟩ := hN.below hNb hB4
  have kw : (cnt : Int) % 256 = (cnt : Int) := by omega
  clear hN
  go_wp2_with (at_builtin; refine wpList_byt rfl _ _ rfl base _ v4 w w4 rfl hv4 hB4 hbs [cnt] _ 1 rfl rfl ?c2 ?_)
  case c2 => simp [le8_len]; omega
  intro v5 w5 hv5 hB5
  have hN5 : NodV w5 N cnt := hN0.below hNb hB5
  clear k0 k3 hv4 hB4
  obtain ⟨k0, -, k3⟩ := hN5
  have hi := asInt
  have hnb := numBytes_c
  go_wp2
  go_loopw [8, 9] (fun b i wr => b = .int .u8 1 ∧ ∃ k : Nat, k ≤ cnt ∧ i = .int .i64 k ∧ wr = w5) (fun _ i _ => cnt - (intOf i).toNat)
  case atStart => exact ⟨rfl, 0, Nat.zero_le _, rfl, rfl⟩
  case round =>
    obtain ⟨rfl, k, hk, rfl, rfl⟩ := hrel
    rcases Nat.lt_or_ge k cnt with hlt | hge
    · have g1 := k3 k hlt
      have hc := hnb k (by omega) wr
      clear k3
      go_wp2_with (go_at_call 58; refine JR.StopN.out ?_)
      refine ⟨?_⟩
      refine hc.mono ?_
      rintro e w6 ⟨rfl, rfl⟩
      go_wp2
      go_roundw
      case rel => exact ⟨rfl, k + 1, by omega, by go_num, trivial⟩
      case measure => simp [intOf]; omega
    · have : k = cnt := by omega
      subst this
      go_wp2_with (at_builtin; refine wpList_byt rfl _ _ rfl base _ v5 w wr rfl hv5 hB5 hbs [1] _ 1 rfl rfl ?c2 ?_)
      case c2 => simp [le8_len]; omega
      intro v6 w6 hv6 hB6
      have hN6 : NodV w6 N k := hN0.below hNb hB6
      clear k0 k3 hv5 hB5
      go_wp2
      go_loopw [1, 11] (fun b i wr => ∃ j : Nat, j ≤ k ∧ i = .int .i64 j ∧ Bys wr base b ((bs ++ le8 (fb a0) ++ le8 (fb a1) ++ le8 (fb a2) ++ le8 (fb a3) ++ [k] ++ [1]) ++ List.range j) ∧ Below base w wr) (fun _ i _ => k - (intOf i).toNat)
      case atStart => exact ⟨0, Nat.zero_le _, rfl, by simpa using hv6, hB6⟩
      case round =>
        clear hv6 hB6 hN6
        obtain ⟨j, hj, rfl, hv7, hB7⟩ := hrel
        obtain ⟨k0, -, k3⟩ := hN0.below hNb hB7
        have han := appendNum_c
        rcases Nat.lt_or_ge j k with hlt | hge
        · have g1 := k3 j hlt
          clear k3
          go_wp2_with (go_at_call 59; refine JR.StopN.out ?_)
          refine ⟨?_⟩
          refine (appendNum_c j base (by omega) _ _ _ hv7 (by simp [le8_len]; omega) (Nat.le_trans hbs hB7.size)).mono ?_
          rintro e w8 ⟨v8, rfl, hv8, hb8⟩
          have hB8 := hB7.trans hb8
          go_wp2
          go_roundw
          case rel => exact ⟨j + 1, by omega, by go_num, by rw [range_snoc]; exact hv8, hB8⟩
          case measure => simp [intOf]; omega
        · have : j = k := by omega
          subst this
          go_wp2
          go_ret
          exact ⟨_, rfl, by unfold rbytes; simpa using hv7, hB7⟩
theorem NodA.nodV {w : World} {N n : Nat} {cs : Array Value} {T : TypeId} (h : NodA cs n) (hn : n ≤ 16) (hr : w.heap[N]? = some (.cells cs T (0, 0))) : NodV w N n := by
  exact ⟨(cellAt hr 0).trans h.2.1, hn, fun i hi => (cellAt hr _).trans (h.2.2 i hi)⟩

set_option maxRecDepth 100000 in
set_option maxHeartbeats 4000000 in
theorem tcompress_c (t b0 n : Nat) (a0 a1 a2 a3 : Int) (hRd : Bd4 a0 a1 a2 a3) (v : Value) (bs : List Nat) (u w : World) (hT : TreeS u t b0 n a0 a1 a2 a3) (hn : n ≤ 16) (hu : Below u.heap.size u w) (hv : Bys w u.heap.size v bs) (hm : bs.length ≤ 500) :
    Calls Tryz.prog 49 #[.pointer (some ⟨t, 0, none⟩), v] w fun e w' => ∃ v', e = .returned v' ∧ Bys w' u.heap.size v' (bs ++ tby a0 a1 a2 a3 n) ∧ Below u.heap.size w w' := by
  have hnn := nilNil
  have hin := ifNil
  have hs := hu.size
  rcases hT with ⟨rfl, hT⟩ | ⟨N, -, hn0, hT⟩
  · have r1 := (cellAt ((hu.block t (lt_of_some hT)).trans hT) 1)
    simp only [List.getElem?_toArray, List.getElem?_cons_zero, List.getElem?_cons_succ] at r1
    go_enter Tryz.func49, Tryz.ntmps49
    go_wp2
    go_ret
    exact ⟨_, rfl, by simpa [tby] using hv, Below.refl _ _⟩
  · have hT' := hT.below hu
    have hNlt := hT.nlt
    obtain ⟨-, h1, cs, hA, hN⟩ := hT'
    have htl : t < u.heap.size := by obtain ⟨-, h1, -⟩ := hT; exact lt_of_some h1
    have r0 := cellAt h1 0
    have r1 := cellAt h1 1
    simp only [List.getElem?_toArray, List.getElem?_cons_zero, List.getElem?_cons_succ] at r0 r1
    go_enter Tryz.func49, Tryz.ntmps49
    go_wp2_with (at_builtin; refine wpList_byt rfl _ _ rfl u.heap.size _ v w w rfl hv (Below.refl _ _) hs [0] _ 1 rfl rfl ?c2 ?_)
    case c2 => omega
    intro v1 w1 hv1 hb1
    have hN1 := (hb1.block N hNlt).trans hN
    have h11 := (hb1.block t htl).trans h1
    clear r0 r1 hv
    have r0 := cellAt h11 0
    simp only [List.getElem?_toArray, List.getElem?_cons_zero, List.getElem?_cons_succ] at r0
    go_upto_region 4 with (fail)
    go_still_tail 8, (by kernel_rfl)
    change wpList _ _ _ _ _ w1.drew
    have hb2 : Below w1.heap.size w1 w1.drew := (Below.refl _ w1).drew
    have hN2 := (hb2.block N (lt_of_some hN1)).trans hN1
    have h12 := (hb2.block t (lt_of_some h11)).trans h11
    have hv2 : Bys w1.drew u.heap.size v1 (bs ++ [0]) := hv1.below hb2
    have hB2 : Below u.heap.size w w1.drew := hb1.drew
    generalize w1.drew = w2 at *
    clear r0 hv1 hb2 hb1 hN1 h11
    have hrc := rcompress_c N n t 1 a0 a1 a2 a3 hRd u.heap.size v1 _ w2 (hA.nodV hn hN2) hNlt htl ((cellAt h12 1).trans rfl) ((cellAt h12 2).trans rfl) ((cellAt h12 3).trans rfl) ((cellAt h12 4).trans rfl) ((cellAt h12 5).trans rfl) hv2 (by simp; omega) (Nat.le_trans hs hB2.size)
    go_wp2_with (go_at_call 55; refine JR.StopN.out ?_)
    refine ⟨?_⟩
    refine hrc.mono ?_
    rintro e w3 ⟨v3, rfl, hv3, hb3⟩
    go_wp2
    go_ret
    exact ⟨_, rfl, by unfold tby; rw [if_neg hn0]; simpa using hv3, hB2.trans hb3⟩
end Go.Proofs.YtlpibeloedfbdaaGreat
set_option linter.unusedSimpArgs false
set_option linter.unusedVariables false
/-! The quad tree of few segments, exactly; its bytes. -/
namespace PF
open Go Go.RowKit JR
def u32v (b : Nat) : Value := .int .u32 b
theorem u32_at {n k : Nat} (h : k < n) : ((List.range n).map u32v)[k]? = some (u32v k) := by simp [h]
theorem range_u32 (n : Nat) : (List.range (n + 1)).map u32v = (List.range n).map u32v ++ [u32v n] := by rw [List.range_succ, List.map_append]; rfl
end PF
namespace Go.Proofs.YtlpibeloedfbdaaGreat
open Go.RowKit PF JR
theorem infoU4 : (Tryz.prog.info? 122).map (fun i => (i.zero, i.size, i.bytes)) = some (some (.int .u32 0), 1, 4) := by kernel_rfl
theorem own_slc {w : World} {base : Nat} {T : TypeId} {size n : Nat} {v : Value} {xs : List Value} (h : w.ownsRow base T size v n xs) : ∃ A c, v = .slice A n c := by
  rcases h.2 with ⟨h1, h2⟩ | ⟨g, cap, cur, h1, -⟩
  · exact ⟨_, _, by rw [h1, h2]⟩
  · exact ⟨_, _, h1⟩
/-- a node that holds n items -/
def QuV (w : World) (q n : Nat) : Prop := ∃ (vi : Value), w.heap[q]? = some (.cells #[.bool false, vi, .pointer none, .pointer none, .pointer none, .pointer none] 113 (0, 0)) ∧ w.ownsRow (q + 1) 122 1 vi n ((List.range n).map u32v)
theorem QuV.below {w u : World} {q n : Nat} (h : QuV w q n) (hb : Below w.heap.size w u) : QuV u q n := by
  obtain ⟨vi, h1, h2⟩ := h
  exact ⟨vi, (hb.block _ (lt_of_some h1)).trans h1, h2.kept (Ext.grown hb none) (own_none _)⟩
theorem QuV.lt {w : World} {q n : Nat} (h : QuV w q n) : q < w.heap.size := by
  obtain ⟨vi, h1, h2⟩ := h
  exact lt_of_some h1

set_option maxRecDepth 100000 in
set_option maxHeartbeats 4000000 in
theorem qinsert_c (q n base a0 a1 a2 a3 b0 b1 b2 b3 : Nat) (sv : Value) (w : World) (hq : QuV w q n) (hn : n ≤ 20) (hbq : base ≤ q) (hbs : base ≤ w.heap.size) :
    Calls Tryz.prog 50 #[.pointer (some ⟨q, 0, none⟩), sv, .agg #[fl a0, fl a1, fl a2, fl a3], .agg #[fl b0, fl b1, fl b2, fl b3], .int .i64 n, .int .i64 0] w fun e w' => e = .returned (.tuple #[]) ∧ QuV w' q (n + 1) ∧ Below base w w' ∧ ∀ (k : Nat) (cs : Array Value) (T : TypeId), k ≠ q → T ≠ 122 → w.heap[k]? = some (.cells cs T (0, 0)) → w'.heap[k]? = some (.cells cs T (0, 0)) := by
  have hql := hq.lt
  have hw2 : Below w.heap.size w ((w.alloc (.cells #[fl a0, fl a1, fl a2, fl a3] 52)).alloc (.cells #[fl b0, fl b1, fl b2, fl b3] 52)) := ((Below.refl _ w).alloc (Nat.le_refl _) _).alloc (by simp) _
  obtain ⟨vi, h1, h2⟩ := hq.below hw2
  clear hq
  have hvi : ∃ A c, vi = .slice A n c := own_slc h2
  obtain ⟨A, c, rfl⟩ := hvi
  have hlo : ∀ g, (Value.slice A n c).ownBlock = some g → q + 1 ≤ g := fun g hg => (h2.lt g hg).1
  have hoth : ∀ (k : Nat) (cs : Array Value) (T : TypeId), T ≠ 122 → ((w.alloc (.cells #[fl a0, fl a1, fl a2, fl a3] 52)).alloc (.cells #[fl b0, fl b1, fl b2, fl b3] 52)).heap[k]? = some (.cells cs T (0, 0)) → (Value.slice A n c).ownBlock ≠ some k := by
    intro k cs T hT hk he
    rcases h2.2 with ⟨hh, -⟩ | ⟨g, cap, cur, hh, -, hrow, -⟩
    · rw [hh] at he; cases he
    · rw [hh] at he
      cases he
      rw [hk] at hrow
      cases hrow
      exact hT rfl
  have x0 := cellAt h1 0
  have x1 := cellAt h1 1
  have f1 := frozenAt h1 1
  simp only [List.getElem?_toArray, List.getElem?_cons_zero, List.getElem?_cons_succ] at x0 x1
  obtain ⟨i0, hi, hz0, hz1, hz2⟩ := info_parts infoU4
  have h32 : (n : Int) ≠ 32 := by omega
  go_enter Tryz.func50, Tryz.ntmps50
  have hB2 : Below (q + 1) w ((w.alloc (.cells #[fl a0, fl a1, fl a2, fl a3] 52)).alloc (.cells #[fl b0, fl b1, fl b2, fl b3] 52)) := hw2.mono (by omega)
  generalize hW : ((w.alloc (.cells #[fl a0, fl a1, fl a2, fl a3] 52)).alloc (.cells #[fl b0, fl b1, fl b2, fl b3] 52)) = w2 at *
  have hs2 := hw2.size
  go_wp2_with (at_builtin; refine wpList_append_own _ rfl _ _ 110 rfl (q + 1) 122 i0 (.int .u32 0) 1 4 Tryz.underlying110 hi hz0 hz1 hz2 rfl (by decide) _ _ _ rfl (h2.alloc _) ⟨w2.heap.size, 0, none⟩ 1 1 [u32v n] rfl rfl (row_cells (heap_alloc_new w2 _)) ?c2 ?c3 ?c4 ?c5 ?_)
  case c2 => intro u hu; simp at hu; subst hu; rfl
  case c3 => unfold maxLen; omega
  case c4 => omega
  case c5 => simp; omega
  intro v' w3 hown' hgrow _
  have hk3 : ∀ (k : Nat) (cs : Array Value) (T : TypeId), T ≠ 122 → w2.heap[k]? = some (.cells cs T (0, 0)) → w3.heap[k]? = some (.cells cs T (0, 0)) := by
    intro k cs T hT hk
    have hne := hoth k cs T hT hk
    have h5 := hgrow.block k (by have := lt_of_some hk; simp; omega) (fun h => hne h.symm)
    exact h5.trans ((Below.heap_alloc w2 _ k (lt_of_some hk)).trans hk)
  have hk2 : ∀ (k : Nat) (cs : Array Value) (T : TypeId), w.heap[k]? = some (.cells cs T (0, 0)) → w2.heap[k]? = some (.cells cs T (0, 0)) := fun k cs T hk => (hw2.block k (lt_of_some hk)).trans hk
  have hB3 := row_below (hB2.alloc (by omega) _) hgrow hlo (by simp; omega)
  have hq3 := (row_below ((Below.refl (q + 1) w2).alloc (by omega) _) hgrow hlo (by simp; omega)).block q (by omega) |>.trans h1
  clear x0 x1 f1 h1 h2 hgrow hB2 hlo hW hw2 hoth
  have f1 := frozenAt hq3 1
  have x1 := cellAt hq3 1
  simp only [List.getElem?_toArray, List.getElem?_cons_zero, List.getElem?_cons_succ] at x1
  obtain ⟨A', c', rfl⟩ := own_slc hown'
  go_wp2
  go_end0
  have hr := (Rw.refl hq3).set 1 (.slice A' (n + 1) c')
  have hr3 := hr.kp
  refine ⟨rfl, ⟨.slice A' (n + 1) c', hr.row, ?_⟩, (hB3.mono (by omega)).trans (hr.below (by have := hB3.size; omega) hbq), fun k cs T hkq hT hk => ?_⟩
  · rw [range_u32]
    exact hown'.kept (row := some q) ⟨hr3.os, hr3.tape, hr3.output, hr3.size, fun k hk hne => hr3.block k hk (by intro hm; simp at hm; exact hne (by rw [hm]))⟩ (.inr (fun h => by have := (hown'.lt q h).1; omega))
  · have h5 := hk3 k cs T hT (hk2 k cs T hk)
    exact (hr3.block k (lt_of_some h5) (by simpa using hkq)).trans h5
theorem own_at {w : World} {base : Nat} {T : TypeId} {n j : Nat} {A : Option Addr} {c : Nat} {x : Value} {xs : List Value} (h : w.ownsRow base T 1 (.slice A n c) n xs) (hx : xs[j]? = some x) : ∃ g, A = some ⟨g, 0, none⟩ ∧ w.cell? ⟨g, j, none⟩ = some x := by
  have hj : j < xs.length := by
    rcases Nat.lt_or_ge j xs.length with h | h
    · exact h
    · rw [List.getElem?_eq_none h] at hx; cases hx
  rcases h.2 with ⟨h1, h2⟩ | ⟨g, cap, cur, h1, -, h3, -, -, h6, h7⟩
  · have := h.1; omega
  · cases h1
    refine ⟨g, rfl, (cellAt h3 j).trans ?_⟩
    rw [← h7, List.getElem?_take] at hx
    split at hx
    · simpa using hx
    · cases hx

set_option maxRecDepth 100000 in
set_option maxHeartbeats 4000000 in
theorem qcompress_c (q n a0 a1 a2 a3 : Nat) (v : Value) (bs : List Nat) (u w : World) (hq : QuV u q n) (hn : n ≤ 20) (hu : Below u.heap.size u w) (hv : Bys w u.heap.size v bs) (hm : bs.length ≤ 500) :
    Calls Tryz.prog 51 #[.pointer (some ⟨q, 0, none⟩), v, .agg #[fl a0, fl a1, fl a2, fl a3]] w fun e w' => ∃ v', e = .returned v' ∧ Bys w' u.heap.size v' (bs ++ qbytes n) ∧ Below u.heap.size w w' := by
  have hs := hu.size
  have hnb := numBytes_c
  have hB1 : Below u.heap.size w (w.alloc (.cells #[fl a0, fl a1, fl a2, fl a3] 52)) := (Below.refl _ w).alloc hs _
  have hq1 := hq.below (hu.trans hB1)
  have hv1 := hv.alloc (.cells #[fl a0, fl a1, fl a2, fl a3] 52)
  go_enter Tryz.func51, Tryz.ntmps51
  go_upto_region 1 with (fail)
  generalize w.alloc (.cells #[fl a0, fl a1, fl a2, fl a3] 52) = w1 at *
  clear hv
  obtain ⟨vi, h1, h2⟩ := hq1
  obtain ⟨A, c, rfl⟩ := own_slc h2
  have x0 := cellAt h1 0
  have x1 := cellAt h1 1
  simp only [List.getElem?_toArray, List.getElem?_cons_zero, List.getElem?_cons_succ] at x0 x1
  have hc := hnb n (by omega) w1
  go_wp2_with (go_at_call 58; refine JR.StopN.out ?_)
  refine ⟨?_⟩
  refine hc.mono ?_
  rintro e w2 ⟨rfl, rfl⟩
  clear hc
  go_wp2
  go_loopw [7, 8] (fun b i wr => b = .int .u8 1 ∧ ∃ k : Nat, k ≤ n ∧ i = .int .i64 k ∧ wr = w2) (fun _ i _ => n - (intOf i).toNat)
  case atStart => exact ⟨rfl, 0, Nat.zero_le _, rfl, rfl⟩
  case round =>
    obtain ⟨rfl, k, hk, rfl, rfl⟩ := hrel
    rcases Nat.lt_or_ge k n with hlt | hge
    · obtain ⟨g, rfl, g1⟩ := own_at h2 (u32_at hlt)
      have hc := hnb k (by omega) wr
      unfold u32v at g1
      go_wp2_with (go_at_call 58; refine JR.StopN.out ?_)
      refine ⟨?_⟩
      refine hc.mono ?_
      rintro e w6 ⟨rfl, rfl⟩
      go_wp2
      go_roundw
      case rel => exact ⟨rfl, k + 1, by omega, by go_num, trivial⟩
      case measure => simp [intOf]; omega
    · have : k = n := by omega
      subst this
      go_wp2_with (at_builtin; refine wpList_byt rfl _ _ rfl u.heap.size _ v w wr rfl hv1 hB1 hs [1] _ 1 rfl rfl ?c2 ?_)
      case c2 => omega
      intro v6 w6 hv6 hB6
      clear h1 h2 hv1 x0 x1 hB1
      obtain ⟨vi, h1, h2⟩ := hq.below (hu.trans hB6)
      obtain ⟨A, c, rfl⟩ := own_slc h2
      have x0 := cellAt h1 0
      have x1 := cellAt h1 1
      simp only [List.getElem?_toArray, List.getElem?_cons_zero, List.getElem?_cons_succ] at x0 x1
      go_wp2_with (go_at_call 59; refine JR.StopN.out ?_)
      refine ⟨?_⟩
      refine (appendNum_c k u.heap.size (by omega) _ _ _ hv6 (by simp; omega) (Nat.le_trans hs hB6.size)).mono ?_
      rintro e w7 ⟨v7, rfl, hv7, hb7⟩
      have hB7 := hB6.trans hb7
      clear h1 h2 hv6 x0 x1 hB6 hb7
      go_wp2
      go_loopw [1, 10] (fun b i wr => ∃ j : Nat, j ≤ k ∧ i = .int .i64 j ∧ Bys wr u.heap.size b (bs ++ [1] ++ [k] ++ List.range j) ∧ Below u.heap.size w wr) (fun _ i _ => k - (intOf i).toNat)
      case atStart => exact ⟨0, Nat.zero_le _, rfl, by simpa using hv7, hB7⟩
      case round =>
        clear hv7 hB7
        obtain ⟨j, hj, rfl, hv7, hB7⟩ := hrel
        obtain ⟨vi, h1, h2⟩ := hq.below (hu.trans hB7)
        obtain ⟨A, c, rfl⟩ := own_slc h2
        have x0 := cellAt h1 0
        have x1 := cellAt h1 1
        simp only [List.getElem?_toArray, List.getElem?_cons_zero, List.getElem?_cons_succ] at x0 x1
        rcases Nat.lt_or_ge j k with hlt | hge
        · obtain ⟨g, rfl, g1⟩ := own_at h2 (u32_at hlt)
          unfold u32v at g1
          go_wp2_with (go_at_call 59; refine JR.StopN.out ?_)
          refine ⟨?_⟩
          refine (appendNum_c j u.heap.size (by omega) _ _ _ hv7 (by simp; omega) (Nat.le_trans hs hB7.size)).mono ?_
          rintro e w8 ⟨v8, rfl, hv8, hb8⟩
          have hB8 := hB7.trans hb8
          go_wp2
          go_roundw
          case rel => exact ⟨j + 1, by omega, by go_num, by rw [range_snoc]; exact hv8, hB8⟩
          case measure => simp [intOf]; omega
        · have : j = k := by omega
          subst this
          go_wp2_with (at_builtin; refine wpList_byt rfl _ _ rfl u.heap.size _ _ w wr (by rfl) hv7 hB7 hs [0] _ 1 rfl rfl ?c2 ?_)
          case c2 => simp; omega
          intro v9 w9 hv9 hB9
          go_wp2
          go_ret
          exact ⟨_, rfl, by unfold qbytes; simpa using hv9, hB9⟩
end Go.Proofs.YtlpibeloedfbdaaGreat
set_option linter.unusedSimpArgs false
set_option linter.unusedVariables false
/-! setCompressed: the index laid into the series, exactly. -/
namespace Go.Proofs.YtlpibeloedfbdaaGreat
open Go.RowKit PF JR
theorem Bys.open {w : World} {base : Nat} {v : Value} {bs : List Nat} (h : Bys w base v bs) (hn : bs ≠ []) : ∃ g cap cur, v = .slice (some ⟨g, 0, none⟩) bs.length cap ∧ base ≤ g ∧ w.heap[g]? = some (.cells cur 5 (0, 0)) ∧ bs.length ≤ cap ∧ cap ≤ maxLen ∧ cur.size = cap ∧ cur.toList.take bs.length = bs.map byv := by
  rcases h.2 with ⟨-, h2⟩ | ⟨g, cap, cur, h2, h3, h4, h5, h6, h7, h8⟩
  · exact absurd (List.eq_nil_of_length_eq_zero h2) hn
  · exact ⟨g, cap, cur, h2, h3, h4, h5, h6, by simpa using h7, by simpa using h8⟩
set_option maxRecDepth 100000 in
set_option maxHeartbeats 4000000 in
theorem putU32_c (b k c x : Nat) (hx : x < 4294967296) (cs : Array Value) (T : TypeId) (w : World) (hb : w.heap[b]? = some (.cells cs T (0, 0))) (hs : 5 ≤ cs.size) (hk : 4 ≤ k) :
    Calls Tryz.prog 54 #[.agg #[], .slice (some ⟨b, 1, none⟩) k c, .int .u32 x] w fun e w' => e = .returned (.tuple #[]) ∧ Rw w w' b ((((cs.setIfInBounds 1 (byv (x % 256))).setIfInBounds 2 (byv (x / 256 % 256))).setIfInBounds 3 (byv (x / 65536 % 256))).setIfInBounds 4 (byv (x / 16777216 % 256))) T := by
  have hr : Rw w (w.alloc (.cells #[] 120)) b cs T := (Rw.refl hb).ext ((Below.refl _ w).alloc (Nat.le_refl _) _)
  obtain ⟨y1, z1⟩ := hr.cell 1 (by omega)
  obtain ⟨y2, z2⟩ := hr.cell 2 (by omega)
  obtain ⟨y3, z3⟩ := hr.cell 3 (by omega)
  obtain ⟨y4, z4⟩ := hr.cell 4 (by omega)
  have f1 := frozenAt hr.row 1
  have f2 := frozenAt hr.row 2
  have f3 := frozenAt hr.row 3
  have f4 := frozenAt hr.row 4
  have k0 : (0 : Int) < k := by omega
  have k1 : (1 : Int) < k := by omega
  have k2 : (2 : Int) < k := by omega
  have k3 : (3 : Int) < k := by omega
  clear hb
  go_enter Tryz.func54, Tryz.ntmps54
  go_wp2
  go_end0
  have h := (((hr.set 1 (.int .u8 ((x : Int) % 256))).set 2 (.int .u8 ((x : Int) / 256 % 256))).set 3 (.int .u8 ((x : Int) / 65536 % 256))).set 4 (.int .u8 ((x : Int) / 16777216))
  have e4 : ((x / 16777216 % 256 : Nat) : Int) = (x : Int) / 16777216 := by omega
  have e1 : byv (x % 256) = .int .u8 ((x : Int) % 256) := by unfold byv; congr 1
  have e2 : byv (x / 256 % 256) = .int .u8 ((x : Int) / 256 % 256) := by unfold byv; congr 1
  have e3 : byv (x / 65536 % 256) = .int .u8 ((x : Int) / 65536 % 256) := by unfold byv; congr 1
  have e5 : byv (x / 16777216 % 256) = .int .u8 ((x : Int) / 16777216) := by unfold byv; rw [e4]
  rw [e1, e2, e3, e5]
  exact ⟨rfl, h⟩

set_option maxRecDepth 100000 in
set_option maxHeartbeats 4000000 in
theorem setComp_c (sb m base h0 : Nat) (rest : List Nat) (v : Value) (ss : Array Value) (w : World) (hs : w.heap[sb]? = some (.cells ss 81 (0, 0))) (hss : 5 ≤ ss.size) (hv : Bys w base v (h0 :: 0 :: 0 :: 0 :: 0 :: rest)) (hm : rest.length + 5 = m) (hm2 : m ≤ 1000) (hbs0 : base ≤ w.heap.size) (hsb : sb < base) :
    Calls Tryz.prog 48 #[.pointer (some ⟨sb, 0, none⟩), v] w fun e w' => e = .returned (.tuple #[]) ∧ ∃ w4 g, Below base w w4 ∧ w4.heap[sb]? = some (.cells ss 81 (0, 0)) ∧ base ≤ g ∧ w4.heap[g]? = some (.cells ((h0 :: (le4 m ++ rest)).map byv).toArray 5 (0, 0)) ∧ w' = w4.setCell ⟨sb, 4, none⟩ (.iface 107 (.slice (some ⟨g, 0, none⟩) m m)) := by
  obtain ⟨g, cap, cur, rfl, hg, hrow, hcap, hmax, hcs, htk⟩ := hv.open (by simp)
  rw [show (h0 :: 0 :: 0 :: 0 :: 0 :: rest).length = m from by simp; omega] at *
  obtain ⟨i0, hi, hz0, hz1, hz2⟩ := info_parts infoBy
  have hmk : ∀ u : World, (Instr.makeSlice 107 (.int .i64 m) (.int .i64 m)).run Tryz.prog u = .ok (.slice (some ⟨u.heap.size, 0, none⟩) m m) (u.alloc (.cells (madeCells #[.int .u8 0] m) 5)) := by
    intro u
    have := run_make (P := Tryz.prog) u 107 5 i0 (.int .u8 0) Tryz.underlying107 hi hz0 .i64 .i64 m m (by omega) (by omega) (by rw [hz2]; omega) (by omega)
    rw [hz1] at this
    have e : (Value.int .u8 0).cells = #[.int .u8 0] := rfl
    rw [e] at this
    simpa using this
  have i1 : (1 : Int) ≤ m := by omega
  have i2 : (m : Int) ≤ cap := by omega
  go_enter Tryz.func48, Tryz.ntmps48
  go_upto_region 0 with (fail)
  go_still_tail 6, (by kernel_rfl)
  change wpList _ _ _ _ _ w.drew
  have hb1 : Below w.heap.size w w.drew := (Below.refl _ w).drew
  have hs1 : w.drew.heap.size = w.heap.size := rfl
  have hrow1 := (hb1.block g (lt_of_some hrow)).trans hrow
  have hss1 := (hb1.block sb (lt_of_some hs)).trans hs
  have hB1 : Below base w w.drew := hb1.mono hbs0
  generalize w.drew = w1 at *
  clear hb1 hrow hs hv
  have hput := fun k c hk => putU32_c g k c m (by omega) cur _ w1 hrow1 (by omega) hk
  go_wp2_with (go_at_call 54; refine JR.StopN.out ?_)
  refine ⟨?_⟩
  refine (hput _ _ (by omega)).mono ?_
  rintro e w2 ⟨rfl, hr2⟩
  obtain ⟨cur2, hcur2⟩ : ∃ c, c = ((((cur.setIfInBounds 1 (byv (m % 256))).setIfInBounds 2 (byv (m / 256 % 256))).setIfInBounds 3 (byv (m / 65536 % 256))).setIfInBounds 4 (byv (m / 16777216 % 256))) := ⟨_, rfl⟩
  rw [← hcur2] at hr2
  have hsz2 : cur2.size = cur.size := by rw [hcur2]; simp
  have hbs : cur2.toList.take m = (h0 :: (le4 m ++ rest)).map byv := by
    rw [hcur2]
    simp only [Array.toList_setIfInBounds, List.take_set, htk]
    simp [le4]
  clear hcur2
  have hgs : sb ≠ g := by omega
  have hss2 := (hr2.kp.block sb (lt_of_some hss1) (by simpa using hgs)).trans hss1
  have hB2 : Below base w w2 := hB1.trans (hr2.below (Nat.le_trans hbs0 hB1.size) (by omega))
  have hrow2 := hr2.row
  clear hrow1 hr2 hput hss1 hB1
  have hsz3 := size_madeCells #[.int .u8 0] m
  have hnew := heap_alloc_new w2 (.cells (madeCells #[.int .u8 0] m) 5)
  have hB3 : Below w2.heap.size w2 (w2.alloc (.cells (madeCells #[.int .u8 0] m) 5)) := (Below.refl _ w2).alloc (Nat.le_refl _) _
  have hlen : (cur2.toList.take m).length = m := by simp [hsz2, hcs]; omega
  have had : ∀ j, ((⟨g, 0, none⟩ : Addr).add j) = ⟨g, j, none⟩ := fun j => by simp [Addr.add]; exact fun h => h.symm
  have hsrc : ∀ j v, (cur2.toList.take m)[j]? = some v → w2.cell? ((⟨g, 0, none⟩ : Addr).add j) = some v := by
    intro j v hj
    rw [had j]
    rw [List.getElem?_take] at hj
    split at hj
    · exact (cellAt hrow2 j).trans (by simpa using hj)
    · cases hj
  have hon : ∀ v ∈ cur2.toList.take m, v.oneCell' = true := by rw [hbs]; exact byv_one _
  go_wp2
  rw [run_copy_wide _ _ _ _ 5 _ _ _ ⟨g, 0, none⟩ _ _ 1 _ _ (cur2.toList.take m) Tryz.underlying107 (by rw [hi]; simp [hz1]) hnew (by simp [hlen]) (fun j v hj => (hB3.cell (by rw [had j]; exact lt_of_some hrow2)).trans (hsrc j v hj)) (by simp [hlen, hsz3]) hon]
  have hB4 : Below w2.heap.size w2 ((w2.alloc (.cells (madeCells #[.int .u8 0] m) 5)).setRow w2.heap.size (cur2.toList.take m ++ (madeCells #[.int .u8 0] m).toList.drop (cur2.toList.take m).length).toArray) :=
    hB3.trans ⟨rfl, rfl, rfl, by rw [JR.setRow_size]; exact Nat.le_refl _, fun k hk' => JR.setRow_other (by omega)⟩
  have hss4 := (hB4.block sb (lt_of_some hss2)).trans hss2
  have hg4 := setRow_same (cells := (cur2.toList.take m ++ (madeCells #[.int .u8 0] m).toList.drop (cur2.toList.take m).length).toArray) hnew
  rw [show (cur2.toList.take m ++ (madeCells #[.int .u8 0] m).toList.drop (cur2.toList.take m).length) = (h0 :: (le4 m ++ rest)).map byv from by rw [List.drop_eq_nil_of_le (by rw [hlen]; simp [hsz3]), List.append_nil, hbs]] at hg4
  have hB04 := hB2.trans (hB4.mono (Nat.le_trans hbs0 hB2.size))
  simp only [Result.andThen_ok]
  rw [show (cur2.toList.take m ++ (madeCells #[.int .u8 0] m).toList.drop (cur2.toList.take m).length) = (h0 :: (le4 m ++ rest)).map byv from by rw [List.drop_eq_nil_of_le (by rw [hlen]; simp [hsz3]), List.append_nil, hbs]] at *
  generalize World.setRow _ w2.heap.size _ = w4 at *
  have hbg : base ≤ w2.heap.size := Nat.le_trans hbs0 hB2.size
  clear hsrc hon hB3 hnew hrow2 hmk hss2 hB2 hsz3
  obtain ⟨y, z⟩ := (Rw.refl hss4).cell 4 (by omega)
  have f4 := frozenAt hss4 4
  simp only [Oper.upon]
  go_wp2
  go_end0
  exact ⟨rfl, _, _, hB04, hss4, hbg, hg4, rfl⟩
end Go.Proofs.YtlpibeloedfbdaaGreat
