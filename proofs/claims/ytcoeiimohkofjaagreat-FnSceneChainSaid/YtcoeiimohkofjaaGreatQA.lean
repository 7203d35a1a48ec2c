import Derived.Test.YtcoeiimohkofjaaGreatPp
import Derived.Test.YtcoeiimohkofjaaGreatPr
import Derived.Test.YtcoeiimohkofjaaGreatJb
import Derived.Test.YtcoeiimohkofjaaGreatFgp
import Derived.Test.YtcoeiimohkofjaaGreatBlk
import Derived.Test.YtcoeiimohkofjaaGreatQV
import Derived.Laws.Externs
import Derived.StillTailTactics
import Derived.Lib.EndianBits
import Derived.Test.YtcoeiimohkofjaaGreatQS
set_option linter.unusedSimpArgs false
set_option linter.unusedVariables false
/-! The plain law of rings: turned, bgn elsewhere. -/
namespace PF
open Go Go.RowKit JR
def box (l : List (Int × Int)) : Int × Int × Int × Int := bxs l ((at' l 0).1, (at' l 0).2, (at' l 0).1, (at' l 0).2)
theorem SlQ.keep' {l h : Nat} {w w' : World} {v : Value} {L : List (Int × Int)} (hk : ∀ b, l ≤ b → b < h → b < w.heap.size → w'.heap[b]? = w.heap[b]?) (H : SlQ l h w v L) : SlQ l h w' v L := by
  obtain ⟨A, c, hv, hh⟩ := H
  refine ⟨A, c, hv, fun k p hp => ?_⟩
  obtain ⟨b, h1, h4, h5, h2, h3⟩ := hh k p hp
  have hb := World.block_lt_of_cell? w _ h2
  exact ⟨b, h1, h4, h5, (World.cell?_of_block (hk b h4 h5 hb)).trans h2, (World.cell?_of_block (hk b h4 h5 hb)).trans h3⟩
theorem SlQ.below {l h : Nat} {w w' : World} {v : Value} {L : List (Int × Int)} (H : SlQ l h w v L) (hb : Below w.heap.size w w') : SlQ l h w' v L :=
  H.keep' fun b _ _ h3 => hb.block b h3
theorem SlQ.wide {l h l' h' : Nat} {w : World} {v : Value} {L : List (Int × Int)} (H : SlQ l h w v L) (h1 : l' ≤ l) (h2 : h ≤ h') : SlQ l' h' w v L := by
  obtain ⟨A, c, hv, hh⟩ := H
  refine ⟨A, c, hv, fun k p hp => ?_⟩
  obtain ⟨b, h1, h4, h5, h2, h3⟩ := hh k p hp
  exact ⟨b, h1, by omega, by omega, h2, h3⟩
theorem SlQ.len {l h : Nat} {w : World} {v : Value} {L : List (Int × Int)} (H : SlQ l h w v L) : ∃ A c, v = .slice A L.length c := by
  obtain ⟨A, c, hv, _⟩ := H
  exact ⟨A, c, hv⟩
/-! ## cyclic -/
def cyc (l : List (Int × Int)) (i : Nat) : Int × Int := at' l (i % l.length)
theorem cyc_at {l : List (Int × Int)} {k : Nat} (h : k < l.length) : cyc l k = at' l k := by unfold cyc; rw [Nat.mod_eq_of_lt h]
theorem cyc_nx1 {l : List (Int × Int)} {k : Nat} (h : k < l.length) : cyc l (k + 1) = nx1 l k := by
  unfold cyc nx1
  split
  · rename_i e; rw [e, Nat.mod_self]
  · rw [Nat.mod_eq_of_lt (by omega)]
theorem cyc_nx2 {l : List (Int × Int)} {k : Nat} (h : k < l.length) (h2 : 2 ≤ l.length) : cyc l (k + 2) = nx2 l k := by
  unfold cyc nx2
  split
  · rename_i e; rw [show k + 2 = 1 + l.length from by omega, Nat.add_mod_right, Nat.mod_eq_of_lt (by omega)]
  · split
    · rename_i e; rw [e, Nat.mod_self]
    · rw [Nat.mod_eq_of_lt (by omega)]
def zc (l : List (Int × Int)) (k : Nat) : Int := zcr (cyc l k) (cyc l (k + 1)) (cyc l (k + 2))
theorem zc_eq {l : List (Int × Int)} {k : Nat} (h : k < l.length) (h2 : 2 ≤ l.length) : zcr (at' l k) (nx1 l k) (nx2 l k) = zc l k := by
  unfold zc; rw [cyc_at h, cyc_nx1 h, cyc_nx2 h h2]
theorem cyc_add (l : List (Int × Int)) (k : Nat) : cyc l (k + l.length) = cyc l k := by unfold cyc; rw [Nat.add_mod_right]
theorem cyc_mod (l : List (Int × Int)) (k : Nat) : cyc l (k % l.length) = cyc l k := by unfold cyc; rw [Nat.mod_mod]
theorem cyc_add_mod (l : List (Int × Int)) (k j : Nat) : cyc l (k % l.length + j) = cyc l (k + j) := by unfold cyc; rw [Nat.mod_add_mod]
theorem zc_mod (l : List (Int × Int)) (k : Nat) : zc l (k % l.length) = zc l k := by
  unfold zc; rw [cyc_mod, cyc_add_mod, cyc_add_mod]
/-! ## convex: no two turns of different sides -/
def pos (l : List (Int × Int)) (k : Nat) : Prop := ∃ i, i < k ∧ 0 < zc l i
def neg' (l : List (Int × Int)) (k : Nat) : Prop := ∃ i, i < k ∧ zc l i < 0
theorem pos_succ (l : List (Int × Int)) (k : Nat) : pos l (k + 1) ↔ pos l k ∨ 0 < zc l k := by
  constructor
  · rintro ⟨i, h1, h2⟩
    rcases Nat.lt_or_ge i k with h | h
    · exact .inl ⟨i, h, h2⟩
    · have : i = k := by omega
      subst this; exact .inr h2
  · rintro (⟨i, h1, h2⟩ | h)
    · exact ⟨i, by omega, h2⟩
    · exact ⟨k, by omega, h⟩
theorem neg_succ (l : List (Int × Int)) (k : Nat) : neg' l (k + 1) ↔ neg' l k ∨ zc l k < 0 := by
  constructor
  · rintro ⟨i, h1, h2⟩
    rcases Nat.lt_or_ge i k with h | h
    · exact .inl ⟨i, h, h2⟩
    · have : i = k := by omega
      subst this; exact .inr h2
  · rintro (⟨i, h1, h2⟩ | h)
    · exact ⟨i, by omega, h2⟩
    · exact ⟨k, by omega, h⟩
theorem cvs_iff (l : List (Int × Int)) (h2 : 2 ≤ l.length) : ∀ k, k ≤ l.length →
    ((cvs l k).1 = true ∧ pos l k ∧ neg' l k) ∨ ((cvs l k).1 = false ∧ (((cvs l k).2 = 0 ∧ ¬ pos l k ∧ ¬ neg' l k) ∨ ((cvs l k).2 = 1 ∧ pos l k ∧ ¬ neg' l k) ∨ ((cvs l k).2 = -1 ∧ ¬ pos l k ∧ neg' l k))) := by
  intro k
  induction k with
  | zero =>
    intro _
    refine .inr ⟨rfl, .inl ⟨rfl, ?_, ?_⟩⟩
    · rintro ⟨i, h, _⟩; omega
    · rintro ⟨i, h, _⟩; omega
  | succ k ih =>
    intro hk
    have ih := ih (by omega)
    rw [pos_succ, neg_succ]
    simp only [cvs]
    rw [zc_eq (by omega) h2]
    generalize zc l k = z at *
    generalize cvs l k = s at *
    obtain ⟨c, d⟩ := s
    simp only at ih
    generalize pos l k = P at *
    generalize neg' l k = N at *
    rcases ih with ⟨rfl, h1, h2⟩ | ⟨rfl, ⟨rfl, h1, h2⟩ | ⟨rfl, h1, h2⟩ | ⟨rfl, h1, h2⟩⟩ <;> rcases Int.lt_trichotomy z 0 with h | h | h
    all_goals
      first
        | (have g1 : ¬ 0 < z := by omega
           have g2 : ¬ z < 0 := by omega
           simp [cstep, h1, h2, g1, g2]; done)
        | (have g1 : ¬ 0 < z := by omega
           have g2 : z < 0 := by omega
           simp [cstep, h1, h2, g1, g2]; done)
        | (have g1 : 0 < z := by omega
           have g2 : ¬ z < 0 := by omega
           simp [cstep, h1, h2, g1, g2]; done)
theorem cvs_conv (l : List (Int × Int)) (h2 : 2 ≤ l.length) : (cvs l l.length).1 = true ↔ pos l l.length ∧ neg' l l.length := by
  have h := cvs_iff l h2 l.length (Nat.le_refl _)
  rcases h with ⟨h1, h2, h3⟩ | ⟨h1, ⟨-, h2, h3⟩ | ⟨-, h2, h3⟩ | ⟨-, h2, h3⟩⟩ <;> simp [h1, h2, h3]
theorem conv_same {l m : List (Int × Int)} (h2 : 2 ≤ l.length) (hm : m.length = l.length) (h : ∀ i, i < l.length → ∃ j, j < l.length ∧ zc m j = zc l i) (h' : ∀ i, i < l.length → ∃ j, j < l.length ∧ zc l j = zc m i) : (cvs m m.length).1 = (cvs l l.length).1 := by
  rw [Bool.eq_iff_iff, cvs_conv l h2, cvs_conv m (by omega), hm]
  constructor
  · rintro ⟨⟨i, h1, h2⟩, ⟨i', h3, h4⟩⟩
    obtain ⟨j, h5, h6⟩ := h' i h1
    obtain ⟨j', h7, h8⟩ := h' i' h3
    exact ⟨⟨j, h5, by omega⟩, ⟨j', h7, by omega⟩⟩
  · rintro ⟨⟨i, h1, h2⟩, ⟨i', h3, h4⟩⟩
    obtain ⟨j, h5, h6⟩ := h i h1
    obtain ⟨j', h7, h8⟩ := h i' h3
    exact ⟨⟨j, h5, by omega⟩, ⟨j', h7, by omega⟩⟩
theorem conv_neg {l m : List (Int × Int)} (h2 : 2 ≤ l.length) (hm : m.length = l.length) (h : ∀ i, i < l.length → ∃ j, j < l.length ∧ zc m j = - zc l i) (h' : ∀ i, i < l.length → ∃ j, j < l.length ∧ zc l j = - zc m i) : (cvs m m.length).1 = (cvs l l.length).1 := by
  rw [Bool.eq_iff_iff, cvs_conv l h2, cvs_conv m (by omega), hm]
  constructor
  · rintro ⟨⟨i, h1, h2⟩, ⟨i', h3, h4⟩⟩
    obtain ⟨j, h5, h6⟩ := h' i h1
    obtain ⟨j', h7, h8⟩ := h' i' h3
    exact ⟨⟨j', h7, by omega⟩, ⟨j, h5, by omega⟩⟩
  · rintro ⟨⟨i, h1, h2⟩, ⟨i', h3, h4⟩⟩
    obtain ⟨j, h5, h6⟩ := h i h1
    obtain ⟨j', h7, h8⟩ := h i' h3
    exact ⟨⟨j', h7, by omega⟩, ⟨j, h5, by omega⟩⟩
/-! ## the area -/
/-! ## sums around -/
/-! ## another beginning -/
def bgI (n a : Nat) (back : Bool) (i : Nat) : Nat := if back then (a + n - i) % n else (a + i) % n
def bgn (l : List (Int × Int)) (a : Nat) (back : Bool) : List (Int × Int) := (List.range l.length).map fun i => at' l (bgI l.length a back i)
theorem bgn_len (l : List (Int × Int)) (a : Nat) (back : Bool) : (bgn l a back).length = l.length := by simp [bgn]
theorem bgn_at (l : List (Int × Int)) (a : Nat) (back : Bool) (i : Nat) (h : i < l.length) : at' (bgn l a back) i = at' l (bgI l.length a back i) := by
  unfold bgn at'
  simp [List.getD, h]
theorem bgn_cyc (l : List (Int × Int)) (a : Nat) (h : 0 < l.length) (i : Nat) : cyc (bgn l a false) i = cyc l (a + i) := by
  unfold cyc
  rw [bgn_len, bgn_at _ _ _ _ (Nat.mod_lt _ h)]
  simp [bgI]
theorem bgn_cycB (l : List (Int × Int)) (a : Nat) (h : 0 < l.length) (i : Nat) (hi : i ≤ 2 * l.length) : cyc (bgn l a true) i = cyc l (a + 2 * l.length - i) := by
  unfold cyc
  rw [bgn_len, bgn_at _ _ _ _ (Nat.mod_lt _ h)]
  simp only [bgI, if_true]
  congr 1
  have h1 := Nat.mod_lt i h
  have h2 := Nat.div_add_mod i l.length
  generalize i / l.length = q at *
  generalize i % l.length = r at *
  generalize l.length = n at *
  have hq : q ≤ 2 := by
    rcases Nat.lt_or_ge 2 q with h | h
    · have := Nat.mul_le_mul_left n h; omega
    · exact h
  have : q = 0 ∨ q = 1 ∨ q = 2 := by omega
  rcases this with rfl | rfl | rfl
  · rw [show a + 2 * n - i = (a + n - r) + n from by omega, Nat.add_mod_right]
  · rw [show a + 2 * n - i = (a + n - r) from by omega]
  · have : r = 0 := by omega
    rw [show a + 2 * n - i = a from by omega, this, Nat.sub_zero, Nat.add_mod_right]
theorem bgn_conv (l : List (Int × Int)) (a : Nat) (h2 : 2 ≤ l.length) : (cvs (bgn l a false) (bgn l a false).length).1 = (cvs l l.length).1 := by
  have hz : ∀ i, zc (bgn l a false) i = zc l (a + i) := by
    intro i; unfold zc; simp only [bgn_cyc l a (by omega)]; rfl
  refine conv_same h2 (bgn_len _ _ _) (fun i hi => ?_) (fun i hi => ?_)
  · refine ⟨(i + l.length - a % l.length) % l.length, Nat.mod_lt _ (by omega), ?_⟩
    rw [hz, ← zc_mod, Nat.add_mod_mod]
    have h1 := Nat.mod_lt a (show 0 < l.length by omega)
    have h3 := Nat.div_add_mod a l.length
    rw [show a + (i + l.length - a % l.length) = i + l.length + l.length * (a / l.length) from by omega, Nat.add_mul_mod_self_left, Nat.add_mod_right, zc_mod]
  · exact ⟨(a + i) % l.length, Nat.mod_lt _ (by omega), by rw [zc_mod, hz]⟩
theorem zcr_rev (a b c : Int × Int) : zcr c b a = - zcr a b c := by unfold zcr; grind
theorem bgn_convB (l : List (Int × Int)) (a : Nat) (h2 : 2 ≤ l.length) : (cvs (bgn l a true) (bgn l a true).length).1 = (cvs l l.length).1 := by
  have hz : ∀ i, i < l.length → zc (bgn l a true) i = - zc l (a + 2 * l.length - i - 2) := by
    intro i hi
    unfold zc
    rw [bgn_cycB l a (by omega) _ (by omega), bgn_cycB l a (by omega) _ (by omega), bgn_cycB l a (by omega) _ (by omega), ← zcr_rev]
    rw [show a + 2 * l.length - i = a + 2 * l.length - i - 2 + 2 from by omega, show a + 2 * l.length - (i + 1) = a + 2 * l.length - i - 2 + 1 from by omega, show a + 2 * l.length - (i + 2) = a + 2 * l.length - i - 2 from by omega]
    rfl
  refine conv_neg h2 (bgn_len _ _ _) (fun i hi => ?_) (fun i hi => ?_)
  · have h1 := Nat.mod_lt a (show 0 < l.length by omega)
    have h3 := Nat.div_add_mod a l.length
    have h4 := Nat.mod_lt (a % l.length + 2 * l.length - 2 - i) (show 0 < l.length by omega)
    have h5 := Nat.div_add_mod (a % l.length + 2 * l.length - 2 - i) l.length
    refine ⟨(a % l.length + 2 * l.length - 2 - i) % l.length, h4, ?_⟩
    rw [hz _ h4, ← zc_mod l (a + 2 * l.length - _ - 2)]
    rw [show a + 2 * l.length - (a % l.length + 2 * l.length - 2 - i) % l.length - 2 = i + l.length * (a / l.length) + l.length * ((a % l.length + 2 * l.length - 2 - i) / l.length) from by omega, Nat.add_mul_mod_self_left, Nat.add_mul_mod_self_left, zc_mod]
  · exact ⟨(a + 2 * l.length - i - 2) % l.length, Nat.mod_lt _ (by omega), by rw [zc_mod, hz i hi]; omega⟩
theorem bgn_mem (l : List (Int × Int)) (a : Nat) (back : Bool) (h : 0 < l.length) (p : Int × Int) : p ∈ bgn l a back ↔ p ∈ l := by
  have hm : ∀ p, p ∈ l ↔ ∃ i, i < l.length ∧ at' l i = p := by
    intro p
    rw [List.mem_iff_getElem?]
    constructor
    · rintro ⟨i, hi⟩
      rcases Nat.lt_or_ge i l.length with h | h
      · rw [at_get h] at hi; exact ⟨i, h, Option.some.inj hi⟩
      · rw [List.getElem?_eq_none h] at hi; cases hi
    · rintro ⟨i, hi, rfl⟩; exact ⟨i, at_get hi⟩
  constructor
  · intro hp
    simp only [bgn, List.mem_map, List.mem_range] at hp
    obtain ⟨i, hi, rfl⟩ := hp
    rw [hm]
    refine ⟨_, ?_, rfl⟩
    unfold bgI; split <;> exact Nat.mod_lt _ h
  · intro hp
    obtain ⟨i, hi, rfl⟩ := (hm p).1 hp
    simp only [bgn, List.mem_map, List.mem_range]
    have h1 := Nat.mod_lt a h
    have h3 := Nat.div_add_mod a l.length
    cases back with
    | false =>
      refine ⟨(i + l.length - a % l.length) % l.length, Nat.mod_lt _ h, ?_⟩
      simp only [bgI, Bool.false_eq_true, if_false]
      rw [Nat.add_mod_mod, show a + (i + l.length - a % l.length) = i + l.length + l.length * (a / l.length) from by omega, Nat.add_mul_mod_self_left, Nat.add_mod_right, Nat.mod_eq_of_lt hi]
    | true =>
      have h4 := Nat.mod_lt (a % l.length + l.length - i) h
      have h5 := Nat.div_add_mod (a % l.length + l.length - i) l.length
      refine ⟨(a % l.length + l.length - i) % l.length, h4, ?_⟩
      simp only [bgI, if_true]
      congr 1
      have hq : (a % l.length + l.length - i) / l.length ≤ 1 := by
        rcases Nat.lt_or_ge 1 ((a % l.length + l.length - i) / l.length) with h | h
        · have := Nat.mul_le_mul_left l.length h; omega
        · exact h
      generalize (a % l.length + l.length - i) / l.length = q at *
      generalize (a % l.length + l.length - i) % l.length = r at *
      have hq' : q = 0 ∨ q = 1 := by omega
      rcases hq' with rfl | rfl
      · rw [show a + l.length - r = i + l.length * (a / l.length) from by omega, Nat.add_mul_mod_self_left, Nat.mod_eq_of_lt hi]
      · rw [show a + l.length - r = i + l.length * (a / l.length) + l.length from by omega, Nat.add_mod_right, Nat.add_mul_mod_self_left, Nat.mod_eq_of_lt hi]
/-! ## the rectangle -/
theorem bxs_in (l : List (Int × Int)) : ∀ b : Int × Int × Int × Int, (bxs l b).1 ≤ b.1 ∧ (bxs l b).2.1 ≤ b.2.1 ∧ b.2.2.1 ≤ (bxs l b).2.2.1 ∧ b.2.2.2 ≤ (bxs l b).2.2.2 ∧ ∀ p ∈ l, (bxs l b).1 ≤ p.1 ∧ (bxs l b).2.1 ≤ p.2 ∧ p.1 ≤ (bxs l b).2.2.1 ∧ p.2 ≤ (bxs l b).2.2.2 := by
  induction l with
  | nil => intro b; simp [bxs]
  | cons q l ih =>
    intro b
    have h := ih (min b.1 q.1, min b.2.1 q.2, max b.2.2.1 q.1, max b.2.2.2 q.2)
    have e : bxs (q :: l) b = bxs l (min b.1 q.1, min b.2.1 q.2, max b.2.2.1 q.1, max b.2.2.2 q.2) := rfl
    rw [e]
    obtain ⟨h1, h2, h3, h4, h5⟩ := h
    simp only at h1 h2 h3 h4
    refine ⟨by omega, by omega, by omega, by omega, fun p hp => ?_⟩
    rcases List.mem_cons.1 hp with rfl | hp
    · omega
    · exact h5 p hp
theorem bxs_at (l : List (Int × Int)) : ∀ b : Int × Int × Int × Int, ((bxs l b).1 = b.1 ∨ ∃ p ∈ l, p.1 = (bxs l b).1) ∧ ((bxs l b).2.1 = b.2.1 ∨ ∃ p ∈ l, p.2 = (bxs l b).2.1) ∧ ((bxs l b).2.2.1 = b.2.2.1 ∨ ∃ p ∈ l, p.1 = (bxs l b).2.2.1) ∧ ((bxs l b).2.2.2 = b.2.2.2 ∨ ∃ p ∈ l, p.2 = (bxs l b).2.2.2) := by
  induction l with
  | nil => intro b; simp [bxs]
  | cons q l ih =>
    intro b
    have h := ih (min b.1 q.1, min b.2.1 q.2, max b.2.2.1 q.1, max b.2.2.2 q.2)
    have e : bxs (q :: l) b = bxs l (min b.1 q.1, min b.2.1 q.2, max b.2.2.1 q.1, max b.2.2.2 q.2) := rfl
    rw [e]
    generalize bxs l (min b.1 q.1, min b.2.1 q.2, max b.2.2.1 q.1, max b.2.2.2 q.2) = r at *
    obtain ⟨h1, h2, h3, h4⟩ := h
    simp only at h1 h2 h3 h4
    refine ⟨?_, ?_, ?_, ?_⟩
    · rcases h1 with h | ⟨p, hp, h⟩
      · rcases Int.le_total b.1 q.1 with h' | h'
        · exact .inl (by omega)
        · exact .inr ⟨q, by simp, by omega⟩
      · exact .inr ⟨p, by simp [hp], h⟩
    · rcases h2 with h | ⟨p, hp, h⟩
      · rcases Int.le_total b.2.1 q.2 with h' | h'
        · exact .inl (by omega)
        · exact .inr ⟨q, by simp, by omega⟩
      · exact .inr ⟨p, by simp [hp], h⟩
    · rcases h3 with h | ⟨p, hp, h⟩
      · rcases Int.le_total b.2.2.1 q.1 with h' | h'
        · exact .inr ⟨q, by simp, by omega⟩
        · exact .inl (by omega)
      · exact .inr ⟨p, by simp [hp], h⟩
    · rcases h4 with h | ⟨p, hp, h⟩
      · rcases Int.le_total b.2.2.2 q.2 with h' | h'
        · exact .inr ⟨q, by simp, by omega⟩
        · exact .inl (by omega)
      · exact .inr ⟨p, by simp [hp], h⟩
theorem box_spec (l : List (Int × Int)) (h : 0 < l.length) : (∀ p ∈ l, (box l).1 ≤ p.1 ∧ (box l).2.1 ≤ p.2 ∧ p.1 ≤ (box l).2.2.1 ∧ p.2 ≤ (box l).2.2.2) ∧ (∃ p ∈ l, p.1 = (box l).1) ∧ (∃ p ∈ l, p.2 = (box l).2.1) ∧ (∃ p ∈ l, p.1 = (box l).2.2.1) ∧ (∃ p ∈ l, p.2 = (box l).2.2.2) := by
  have m0 : at' l 0 ∈ l := List.mem_of_getElem? (at_get h)
  obtain ⟨-, -, -, -, h1⟩ := bxs_in l ((at' l 0).1, (at' l 0).2, (at' l 0).1, (at' l 0).2)
  obtain ⟨g1, g2, g3, g4⟩ := bxs_at l ((at' l 0).1, (at' l 0).2, (at' l 0).1, (at' l 0).2)
  refine ⟨h1, ?_, ?_, ?_, ?_⟩
  · exact g1.elim (fun h => ⟨_, m0, h.symm⟩) id
  · exact g2.elim (fun h => ⟨_, m0, h.symm⟩) id
  · exact g3.elim (fun h => ⟨_, m0, h.symm⟩) id
  · exact g4.elim (fun h => ⟨_, m0, h.symm⟩) id
theorem box_mem {l m : List (Int × Int)} (hl : 0 < l.length) (hm : 0 < m.length) (h : ∀ p, p ∈ m ↔ p ∈ l) : box m = box l := by
  obtain ⟨a, ⟨p1, a1, b1⟩, ⟨p2, a2, b2⟩, ⟨p3, a3, b3⟩, ⟨p4, a4, b4⟩⟩ := box_spec l hl
  obtain ⟨c, ⟨q1, c1, d1⟩, ⟨q2, c2, d2⟩, ⟨q3, c3, d3⟩, ⟨q4, c4, d4⟩⟩ := box_spec m hm
  have e1 := a q1 ((h _).1 c1); have e2 := a q2 ((h _).1 c2); have e3 := a q3 ((h _).1 c3); have e4 := a q4 ((h _).1 c4)
  have f1 := c p1 ((h _).2 a1); have f2 := c p2 ((h _).2 a2); have f3 := c p3 ((h _).2 a3); have f4 := c p4 ((h _).2 a4)
  generalize box l = x at *
  generalize box m = y at *
  obtain ⟨x1, x2, x3, x4⟩ := x
  obtain ⟨y1, y2, y3, y4⟩ := y
  simp only [Prod.mk.injEq] at *
  omega
theorem bgn_box (l : List (Int × Int)) (a : Nat) (back : Bool) (h : 0 < l.length) : box (bgn l a back) = box l :=
  box_mem h (by rw [bgn_len]; exact h) (fun p => bgn_mem l a back h p)
/-! ## turned -/
def sg (K : Int) : Int := if 4 ≤ K then -1 else 1
end PF
set_option linter.unusedSimpArgs false
set_option linter.unusedVariables false
/-! A region that draws its order and ends in a call that changes what was there: all else in it only reads or adds. -/
namespace JR
open Go Go.RowKit
section
variable {P : Program} {ops : Array Oper} {Q : Exit → Act → World → Prop} {plan : List Ent} {a0 : Act} {i : Nat} {o : Oper} {ns : List Need}
end
end JR
set_option linter.unusedSimpArgs false
set_option linter.unusedVariables false
/-! The bytes of the index, exactly: numbers laid down, read, appended. -/
namespace JR
structure StopN (p : Prop) : Prop where out : p
end JR
namespace PF
open Go Go.RowKit JR
/-- a byte -/
def byv (b : Nat) : Value := .int .u8 b
def le4 (x : Nat) : List Nat := [x % 256, x / 256 % 256, x / 65536 % 256, x / 16777216 % 256]
def le8 (x : Nat) : List Nat := [x % 256, x / 256 % 256, x / 65536 % 256, x / 16777216 % 256, x / 4294967296 % 256, x / 1099511627776 % 256, x / 281474976710656 % 256, x / 72057594037927936 % 256]
/-- one block changed -/
structure Rw (w u : World) (R : Nat) (cs : Array Value) (T : TypeId) : Prop where
  row : u.heap[R]? = some (.cells cs T (0, 0))
  kp : Keep [R] w u
theorem Rw.refl {w : World} {R : Nat} {cs : Array Value} {T : TypeId} (h : w.heap[R]? = some (.cells cs T (0, 0))) : Rw w w R cs T := ⟨h, Keep.refl _ _⟩
theorem Rw.set {w u : World} {R : Nat} {cs : Array Value} {T : TypeId} (h : Rw w u R cs T) (o : Nat) (v : Value) : Rw w (u.setCell ⟨R, o, none⟩ v) R (cs.setIfInBounds o v) T := by
  rw [setCell_row h.row]
  exact ⟨setRow_same h.row, Keep.setRow h.kp (.inr (by simp))⟩
theorem Rw.ext {w u u' : World} {R : Nat} {cs : Array Value} {T : TypeId} (h : Rw w u R cs T) (e : Below u.heap.size u u') : Rw w u' R cs T :=
  ⟨(e.block _ (lt_of_some h.row)).trans h.row, Keep.ext e h.kp⟩
theorem Rw.below {w u : World} {R base : Nat} {cs : Array Value} {T : TypeId} (h : Rw w u R cs T) (hs : base ≤ w.heap.size) (hR : base ≤ R) : Below base w u :=
  Keep.belowX h.kp (Below.refl base w) hs (by intro x hx; simp at hx; omega)
end PF
namespace Go.Proofs.YtcoeiimohkofjaaGreat
open Go.RowKit PF JR

/-- a row of bytes of the call's own -/
def Bys (w : World) (base : Nat) (v : Value) (bs : List Nat) : Prop := w.ownsRow base 5 1 v bs.length (bs.map byv)
theorem Bys.below {w w' : World} {base : Nat} {v : Value} {bs : List Nat} (h : Bys w base v bs) (hb : Below w.heap.size w w') : Bys w' base v bs := h.kept (Ext.grown hb none) (own_none _)
theorem Bys.alloc {w : World} {base : Nat} {v : Value} {bs : List Nat} (h : Bys w base v bs) (o : Obj) : Bys (w.alloc o) base v bs := World.ownsRow.alloc h o
theorem Bys.rw {w u : World} {b base : Nat} {T : TypeId} {cs : Array Value} {v : Value} {bs : List Nat} (h : Rw w u b cs T) (hv : Bys w base v bs) (hne : v.ownBlock ≠ some b) : Bys u base v bs :=
  hv.kept (w' := u) (row := some b) ⟨h.kp.os, h.kp.tape, h.kp.output, h.kp.size, fun k hk hne => h.kp.block k hk (by intro hm; simp at hm; exact hne (by rw [hm]))⟩ (.inr hne)



end Go.Proofs.YtcoeiimohkofjaaGreat
set_option linter.unusedSimpArgs false
set_option linter.unusedVariables false
/-! The r-tree of few segments, exactly. -/
namespace PF
open Go Go.RowKit JR
def Bd4 (a b c d : Int) : Prop := a.natAbs ≤ 1000000 ∧ b.natAbs ≤ 1000000 ∧ c.natAbs ≤ 1000000 ∧ d.natAbs ≤ 1000000
end PF
namespace Go.Proofs.YtcoeiimohkofjaaGreat
open Go.RowKit PF JR
theorem _root_.PF.Rw.drew {w u : World} {R : Nat} {cs : Array Value} {T : TypeId} (h : Rw w u R cs T) : Rw w u.drew R cs T := ⟨h.row, h.kp.drew⟩
theorem _root_.PF.Rw.drewN {w u : World} {R : Nat} {cs : Array Value} {T : TypeId} (h : Rw w u R cs T) (n : Nat) : Rw w (u.drewN n) R cs T := ⟨h.row, ⟨h.kp.os, h.kp.tape, h.kp.output, h.kp.size, h.kp.block⟩⟩
theorem _root_.PF.Rw.cell {w u : World} {R : Nat} {cs : Array Value} {T : TypeId} (h : Rw w u R cs T) (o : Nat) (ho : o < cs.size) : ∃ c, u.cell? ⟨R, o, none⟩ = some c :=
  ⟨cs[o], (cellAt h.row o).trans (Array.getElem?_eq_getElem ho)⟩
theorem _root_.PF.Rw.old {w u : World} {R : Nat} {cs : Array Value} {T : TypeId} (h : Rw w u R cs T) {B o : Nat} {v : Value} (hc : w.cell? ⟨B, o, none⟩ = some v) (hne : B ≠ R) : u.cell? ⟨B, o, none⟩ = some v :=
  (h.kp.cell (p := ⟨B, o, none⟩) (World.block_lt_of_cell? w _ hc) (by simpa using hne)).trans hc




/-- four numbers at their places in a rectangle of the tree -/
def Rec4 (w : World) (R o a b c d : Nat) : Prop := w.cell? ⟨R, o + 1, none⟩ = some (fl a) ∧ w.cell? ⟨R, o + 1 + 1, none⟩ = some (fl b) ∧ w.cell? ⟨R, o + 3, none⟩ = some (fl c) ∧ w.cell? ⟨R, o + 3 + 1, none⟩ = some (fl d)
theorem Rec4.below {w u : World} {R o a b c d : Nat} (h : Rec4 w R o a b c d) (hb : Below w.heap.size w u) : Rec4 u R o a b c d := by
  obtain ⟨h1, h2, h3, h4⟩ := h
  have e : ∀ k, u.cell? ⟨R, k, none⟩ = w.cell? ⟨R, k, none⟩ := fun k => World.cell?_of_block (hb.block R (World.block_lt_of_cell? w _ h1))
  exact ⟨(e _).trans h1, (e _).trans h2, (e _).trans h3, (e _).trans h4⟩


end Go.Proofs.YtcoeiimohkofjaaGreat
set_option linter.unusedSimpArgs false
set_option linter.unusedVariables false
/-! The r-tree of few segments, exactly: the tree. -/
namespace PF
def ifz (n : Nat) (x y : Int) : Int := if n = 0 then x else y
end PF
namespace Go.Proofs.YtcoeiimohkofjaaGreat
open Go.RowKit PF JR
/-- the cells of a node that holds n entries, the numbers 0 .. n-1 -/
def NodA (cs : Array Value) (n : Nat) : Prop := cs.size = 86 ∧ cs[0]? = some (.int .i64 n) ∧ ∀ i, i < n → cs[1 + i * 5]? = some (.iface 3 (.int .i64 i))
theorem NodA.put {cs : Array Value} {n b0 b1 b2 b3 : Nat} (hs : cs.size = 86) (hc0 : cs[0]? = some (.int .i64 n)) (hci : ∀ i, i < n → cs[1 + i * 5]? = some (.iface 3 (.int .i64 i))) (hn : n ≤ 15) :
    (((((cs.setIfInBounds (1 + n * 5) (.iface 3 (.int .i64 n))).setIfInBounds (1 + n * 5 + 1) (.float .f64 b0)).setIfInBounds (1 + n * 5 + 2) (.float .f64 b1)).setIfInBounds (1 + n * 5 + 3) (.float .f64 b2)).setIfInBounds (1 + n * 5 + 4) (.float .f64 b3))[0]? = some (.int .i64 n) ∧
    NodA ((((((cs.setIfInBounds (1 + n * 5) (.iface 3 (.int .i64 n))).setIfInBounds (1 + n * 5 + 1) (.float .f64 b0)).setIfInBounds (1 + n * 5 + 2) (.float .f64 b1)).setIfInBounds (1 + n * 5 + 3) (.float .f64 b2)).setIfInBounds (1 + n * 5 + 4) (.float .f64 b3)).setIfInBounds 0 (.int .i64 (n + 1 : Nat))) (n + 1) := by
  refine ⟨?_, ?_, ?_, ?_⟩
  · simpa [Array.getElem?_setIfInBounds] using hc0
  · simp [hs]
  · rw [Array.getElem?_setIfInBounds]
    simp [hs]
  · intro i hi
    rcases Nat.lt_or_ge i n with h | h
    · simp only [Array.getElem?_setIfInBounds]
      rw [if_neg (by omega), if_neg (by omega), if_neg (by omega), if_neg (by omega), if_neg (by omega), if_neg (by omega)]
      exact hci i h
    · have : i = n := by omega
      subst this
      simp only [Array.getElem?_setIfInBounds]
      rw [if_neg (by omega), if_neg (by omega), if_neg (by omega), if_neg (by omega), if_neg (by omega), if_pos trivial, if_pos (by omega)]
theorem Rec4.row {w : World} {R : Nat} {cs : Array Value} {T : TypeId} (h : w.heap[R]? = some (.cells cs T (0, 0))) {o a b c d : Nat} (h1 : cs[o + 1]? = some (fl a)) (h2 : cs[o + 1 + 1]? = some (fl b)) (h3 : cs[o + 3]? = some (fl c)) (h4 : cs[o + 3 + 1]? = some (fl d)) : Rec4 w R o a b c d :=
  ⟨(cellAt h _).trans h1, (cellAt h _).trans h2, (cellAt h _).trans h3, (cellAt h _).trans h4⟩
/-- a tree with a root node -/
def TreeV (w : World) (t N n : Nat) (a b c d : Int) : Prop := N ≠ t ∧ w.heap[t]? = some (.cells #[.int .i64 0, .iface 162 (.pointer (some ⟨N, 0, none⟩)), fl (fb a), fl (fb b), fl (fb c), fl (fb d), .int .i64 n, .slice none 0 0] 132 (0, 0)) ∧ ∃ cs, NodA cs n ∧ w.heap[N]? = some (.cells cs 165 (0, 0))
/-- a tree that holds n entries -/
def TreeS (w : World) (t base n : Nat) (a b c d : Int) : Prop :=
  (n = 0 ∧ w.heap[t]? = some (.cells #[.int .i64 0, .nilIface, fl 0, fl 0, fl 0, fl 0, .int .i64 0, .slice none 0 0] 132 (0, 0))) ∨ (∃ N, base ≤ N ∧ n ≠ 0 ∧ TreeV w t N n a b c d)
theorem TreeV.below {w u : World} {t N n : Nat} {a b c d : Int} (h : TreeV w t N n a b c d) (hb : Below w.heap.size w u) : TreeV u t N n a b c d := by
  obtain ⟨h0, h1, cs, h2, h3⟩ := h
  exact ⟨h0, (hb.block _ (lt_of_some h1)).trans h1, cs, h2, (hb.block _ (lt_of_some h3)).trans h3⟩




theorem TreeS.below {w u : World} {t base n : Nat} {a b c d : Int} (h : TreeS w t base n a b c d) (hb : Below w.heap.size w u) : TreeS u t base n a b c d := by
  rcases h with ⟨h0, h⟩ | ⟨N, h0, hz, h⟩
  · exact .inl ⟨h0, (hb.block _ (lt_of_some h)).trans h⟩
  · exact .inr ⟨N, h0, hz, h.below hb⟩
theorem TreeS.lt {w : World} {t base n : Nat} {a b c d : Int} (h : TreeS w t base n a b c d) : t < w.heap.size := by
  rcases h with ⟨h0, h⟩ | ⟨N, h0, hz, h⟩
  · exact lt_of_some h
  · obtain ⟨-, h1, -⟩ := h
    exact lt_of_some h1

end Go.Proofs.YtcoeiimohkofjaaGreat
set_option linter.unusedSimpArgs false
set_option linter.unusedVariables false
/-! The index as bytes, exactly. -/
namespace PF
open Go Go.RowKit JR
/-- an r-tree of one node, as bytes -/
def rbytes (a0 a1 a2 a3 : Int) (n : Nat) : List Nat := le8 (fb a0) ++ (le8 (fb a1) ++ (le8 (fb a2) ++ (le8 (fb a3) ++ (n :: 1 :: List.range n))))
/-- a tree as bytes -/
def tby (a0 a1 a2 a3 : Int) (n : Nat) : List Nat := if n = 0 then [] else 0 :: rbytes a0 a1 a2 a3 n
/-- a quad tree of one node, as bytes -/
def qbytes (n : Nat) : List Nat := 1 :: n :: (List.range n ++ [0])
end PF
namespace Go.Proofs.YtcoeiimohkofjaaGreat
open Go.RowKit PF JR
/-- the node in block N holds cnt rectangles; their data are small numbers -/
def NodV (w : World) (N cnt : Nat) : Prop :=
  w.cell? ⟨N, 0, none⟩ = some (.int .i64 cnt) ∧ cnt ≤ 16 ∧ ∀ i : Nat, i < cnt → w.cell? ⟨N, 1 + i * 5, none⟩ = some (.iface 3 (.int .i64 i))
theorem NodV.below {w w' : World} {N cnt B : Nat} (h : NodV w N cnt) (hN : N < B) (hb : Below B w w') : NodV w' N cnt := by
  obtain ⟨h1, h3, h4⟩ := h
  have e : ∀ o, w'.cell? ⟨N, o, none⟩ = w.cell? ⟨N, o, none⟩ := fun o => World.cell?_of_block (hb.block N hN)
  exact ⟨(e _).trans h1, h3, fun i hi => (e _).trans (h4 i hi)⟩


end Go.Proofs.YtcoeiimohkofjaaGreat
set_option linter.unusedSimpArgs false
set_option linter.unusedVariables false
/-! The quad tree of few segments, exactly; its bytes. -/
namespace PF
open Go Go.RowKit JR
def u32v (b : Nat) : Value := .int .u32 b
end PF
namespace Go.Proofs.YtcoeiimohkofjaaGreat
open Go.RowKit PF JR
/-- a node that holds n items -/
def QuV (w : World) (q n : Nat) : Prop := ∃ (vi : Value), w.heap[q]? = some (.cells #[.bool false, vi, .pointer none, .pointer none, .pointer none, .pointer none] 146 (0, 0)) ∧ w.ownsRow (q + 1) 155 1 vi n ((List.range n).map u32v)
theorem QuV.below {w u : World} {q n : Nat} (h : QuV w q n) (hb : Below w.heap.size w u) : QuV u q n := by
  obtain ⟨vi, h1, h2⟩ := h
  exact ⟨vi, (hb.block _ (lt_of_some h1)).trans h1, h2.kept (Ext.grown hb none) (own_none _)⟩
theorem QuV.lt {w : World} {q n : Nat} (h : QuV w q n) : q < w.heap.size := by
  obtain ⟨vi, h1, h2⟩ := h
  exact lt_of_some h1


end Go.Proofs.YtcoeiimohkofjaaGreat
set_option linter.unusedSimpArgs false
set_option linter.unusedVariables false
/-! setCompressed: the index laid into the series, exactly. -/
namespace Go.Proofs.YtcoeiimohkofjaaGreat
open Go.RowKit PF JR

end Go.Proofs.YtcoeiimohkofjaaGreat
