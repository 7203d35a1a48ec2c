import Derived.Test.YtbeoijpdacpaaaaGreatQR
import Derived.Test.YtbeoijpdacpaaaaGreatQY
import Derived.Test.YtbeoijpdacpaaaaGreatQW
import Derived.Test.YtbeoijpdacpaaaaGreatHp
set_option linter.unusedSimpArgs false
set_option linter.unusedVariables false
/-! Plain: the scene's own segments and rings (spec.GeoOn, GeoLeft, GeoMeet, RingSide), and a rectangle and a line. -/
namespace PF
theorem gsd_side (a b p : Int × Int) : gsd a b p = side a.1 a.2 b.1 b.2 p.1 p.2 := by unfold gsd side; grind
theorem gsgn_neg {m n : Int} : gsgn m * gsgn n < 0 ↔ (m < 0 ∧ 0 < n) ∨ (0 < m ∧ n < 0) := by
  unfold gsgn
  split <;> split <;> (try split) <;> (try split) <;> simp <;> omega
theorem gmt_sym (a b c d : Int × Int) : gmt a b c d = gmt c d a b := by
  unfold gmt
  cases gon a b c <;> cases gon a b d <;> cases gon c d a <;> cases gon c d b <;> simp [Bool.and_comm]
/-- off one line they meet just as the package says -/
theorem gmt_meets {a b c d : Int × Int} (ho : ovl a.1 a.2 b.1 b.2 c.1 c.2 d.1 d.2 = false) : gmt a b c d = meets a.1 a.2 b.1 b.2 c.1 c.2 d.1 d.2 := by
  obtain ⟨h1, h2⟩ := ovl_false ho
  have sw : ∀ Ax Ay Bx By Cx Cy Dx Dy : Int, meets Ax Ay Bx By Dx Dy Cx Cy = meets Ax Ay Bx By Cx Cy Dx Dy := fun Ax Ay Bx By Cx Cy Dx Dy => by
    unfold meets
    apply decide_eq_decide.2
    rw [apart_comm, side_swap (Ax := Cx) (Ay := Cy) (Bx := Dx) (By := Dy), side_swap (Ax := Cx) (Ay := Cy) (Bx := Dx) (By := Dy), apart_neg]
  have sy : meets c.1 c.2 d.1 d.2 a.1 a.2 b.1 b.2 = meets a.1 a.2 b.1 b.2 c.1 c.2 d.1 d.2 := by
    unfold meets
    apply decide_eq_decide.2
    exact And.comm
  have k1 : side a.1 a.2 b.1 b.2 c.1 c.2 = 0 → gon a b c = meets a.1 a.2 b.1 b.2 c.1 c.2 d.1 d.2 := fun h => by
    rw [gon_rc]; exact (on_iff h (h1.resolve_left (fun g => g h))).symm
  have k2 : side a.1 a.2 b.1 b.2 d.1 d.2 = 0 → gon a b d = meets a.1 a.2 b.1 b.2 c.1 c.2 d.1 d.2 := fun h => by
    rw [gon_rc, ← sw]; exact (on_iff h (h1.resolve_right (fun g => g h))).symm
  have k3 : side c.1 c.2 d.1 d.2 a.1 a.2 = 0 → gon c d a = meets a.1 a.2 b.1 b.2 c.1 c.2 d.1 d.2 := fun h => by
    rw [gon_rc, ← sy]; exact (on_iff h (h2.resolve_left (fun g => g h))).symm
  have k4 : side c.1 c.2 d.1 d.2 b.1 b.2 = 0 → gon c d b = meets a.1 a.2 b.1 b.2 c.1 c.2 d.1 d.2 := fun h => by
    rw [gon_rc, ← sy, ← sw]; exact (on_iff h (h2.resolve_right (fun g => g h))).symm
  have n1 : side a.1 a.2 b.1 b.2 c.1 c.2 ≠ 0 → gon a b c = false := fun h => by unfold gon; rw [gsd_side, decide_eq_false h, Bool.and_false]
  have n2 : side a.1 a.2 b.1 b.2 d.1 d.2 ≠ 0 → gon a b d = false := fun h => by unfold gon; rw [gsd_side, decide_eq_false h, Bool.and_false]
  have n3 : side c.1 c.2 d.1 d.2 a.1 a.2 ≠ 0 → gon c d a = false := fun h => by unfold gon; rw [gsd_side, decide_eq_false h, Bool.and_false]
  have n4 : side c.1 c.2 d.1 d.2 b.1 b.2 ≠ 0 → gon c d b = false := fun h => by unfold gon; rw [gsd_side, decide_eq_false h, Bool.and_false]
  have hm : meets a.1 a.2 b.1 b.2 c.1 c.2 d.1 d.2 = true ↔ apartB (side a.1 a.2 b.1 b.2 c.1 c.2) (side a.1 a.2 b.1 b.2 d.1 d.2) ∧ apartB (side c.1 c.2 d.1 d.2 a.1 a.2) (side c.1 c.2 d.1 d.2 b.1 b.2) := by
    unfold meets; exact decide_eq_true_iff
  unfold gmt
  rw [gsd_side, gsd_side, gsd_side, gsd_side]
  rw [Bool.eq_iff_iff, Bool.or_eq_true, Bool.or_eq_true, Bool.or_eq_true, Bool.or_eq_true, Bool.and_eq_true, decide_eq_true_iff, decide_eq_true_iff, gsgn_neg, gsgn_neg]
  generalize side a.1 a.2 b.1 b.2 c.1 c.2 = s1 at *
  generalize side a.1 a.2 b.1 b.2 d.1 d.2 = s2 at *
  generalize side c.1 c.2 d.1 d.2 a.1 a.2 = s3 at *
  generalize side c.1 c.2 d.1 d.2 b.1 b.2 = s4 at *
  clear sw sy
  generalize meets a.1 a.2 b.1 b.2 c.1 c.2 d.1 d.2 = r at *
  constructor
  · rintro ((((h | h) | h) | h) | ⟨h, h'⟩)
    · by_cases g : s1 = 0
      · rw [← k1 g]; exact h
      · rw [n1 g] at h; cases h
    · by_cases g : s2 = 0
      · rw [← k2 g]; exact h
      · rw [n2 g] at h; cases h
    · by_cases g : s3 = 0
      · rw [← k3 g]; exact h
      · rw [n3 g] at h; cases h
    · by_cases g : s4 = 0
      · rw [← k4 g]; exact h
      · rw [n4 g] at h; cases h
    · rw [hm]; unfold apartB; omega
  · intro h
    by_cases g1 : s1 = 0
    · exact .inl (.inl (.inl (.inl ((k1 g1).trans h))))
    by_cases g2 : s2 = 0
    · exact .inl (.inl (.inl (.inr ((k2 g2).trans h))))
    by_cases g3 : s3 = 0
    · exact .inl (.inl (.inr ((k3 g3).trans h)))
    by_cases g4 : s4 = 0
    · exact .inl (.inr ((k4 g4).trans h))
    obtain ⟨q1, q2⟩ := hm.1 h
    unfold apartB at q1 q2
    exact .inr ⟨by omega, by omega⟩
end PF
namespace Go.Proofs.YtbeoijpdacpaaaaGreat
open Go.RowKit PF JR
section
variable {a b c d : Int}
/-- a segment meets a side of a rectangle -/
def anyS (a b c d : Int) (A B : Int × Int) : Bool := ((gmt (a, b) (c, b) A B || gmt (c, b) (c, d) A B) || gmt (c, d) (a, d) A B) || gmt (a, d) (a, b) A B
theorem gon_in {p q x : Int × Int} (h : gon p q x = true) : min p.1 q.1 ≤ x.1 ∧ x.1 ≤ max p.1 q.1 ∧ min p.2 q.2 ≤ x.2 ∧ x.2 ≤ max p.2 q.2 := by
  unfold gon at h
  rw [Bool.and_eq_true] at h
  exact of_decide_eq_true h.1
/-- segments whose points lie on one side of each other do not meet -/
theorem gmt_same {p q A B : Int × Int} (h1 : gon p q A = false) (h2 : gon p q B = false) (h3 : gon A B p = false) (h4 : gon A B q = false) (h : (0 ≤ gsd p q A ∧ 0 ≤ gsd p q B) ∨ (gsd p q A ≤ 0 ∧ gsd p q B ≤ 0) ∨ (0 ≤ gsd A B p ∧ 0 ≤ gsd A B q) ∨ (gsd A B p ≤ 0 ∧ gsd A B q ≤ 0)) : gmt p q A B = false := by
  unfold gmt
  rw [h1, h2, h3, h4]
  rw [Bool.eq_false_iff]
  intro hh
  simp only [Bool.false_or, Bool.and_eq_true, decide_eq_true_iff, gsgn_neg] at hh
  omega
theorem out_gon {p q A : Int × Int} (h : inB (a, b, c, d) A = false) (hp : inB (a, b, c, d) p = true) (hq : inB (a, b, c, d) q = true) : gon p q A = false := by
  rw [Bool.eq_false_iff]
  intro hh
  have h1 := gon_in hh
  have hp := of_decide_eq_true hp
  have hq := of_decide_eq_true hq
  have h := of_decide_eq_false h
  simp only at hp hq h
  omega
theorem crn_in (h1 : a < c) (h2 : b < d) : inB (a, b, c, d) (a, b) = true ∧ inB (a, b, c, d) (c, b) = true ∧ inB (a, b, c, d) (c, d) = true ∧ inB (a, b, c, d) (a, d) = true := by
  unfold inB
  refine ⟨?_, ?_, ?_, ?_⟩ <;> rw [decide_eq_true_iff] <;> simp only <;> omega
theorem risP_off (h1 : a < c) (h2 : b < d) {A B : Int × Int} (oA : inB (a, b, c, d) A = false) (oB : inB (a, b, c, d) B = false) :
    risP (rl a b c d) A B = (bmB (min A.1 B.1, min A.2 B.2, max A.1 B.1, max A.2 B.2) (a, b, c, d) && decide (2 ≤ ((((0 + if sxp A B (a, b) (c, b) = true then 1 else 0) + if sxp A B (c, b) (c, d) = true then 1 else 0) + if sxp A B (c, d) (a, d) = true then 1 else 0) + if sxp A B (a, d) (a, b) = true then 1 else 0))) := by
  have e : decide (2 ≤ cntN (fun k => sxp A B (at' (rl a b c d) k) (nxp (rl a b c d) k)) (nSeg true (rl a b c d))) = _ := congrArg (fun n => decide (2 ≤ n)) (qd_cnt (a, b) (c, b) (c, d) (a, d) (sxp A B))
  unfold risP
  rw [e, rect_has h1 h2, rect_has h1 h2, rl_box (Int.le_of_lt h1) (Int.le_of_lt h2), oA, oB]
  simp only [Bool.false_or]
theorem risP_dg (h1 : a < c) (h2 : b < d) {A : Int × Int} (oA : inB (a, b, c, d) A = false) : risP (rl a b c d) A A = anyS a b c d A A := by
  obtain ⟨i1, i2, i3, i4⟩ := crn_in h1 h2
  have hne : ∀ p, inB (a, b, c, d) p = true → gon A A p = false := fun p hp => by
    rw [Bool.eq_false_iff]
    intro hh
    have h := gon_in hh
    have : p = A := Prod.ext (by omega) (by omega)
    rw [this, oA] at hp
    cases hp
  have hz : ∀ p : Int × Int, gsd A A p = 0 := fun p => by unfold gsd; simp
  have hs : ∀ p q, inB (a, b, c, d) p = true → inB (a, b, c, d) q = true → gmt p q A A = false := fun p q hp hq =>
    gmt_same (out_gon oA hp hq) (out_gon oA hp hq) (hne p hp) (hne q hq) (.inr (.inr (.inl ⟨by rw [hz]; omega, by rw [hz]; omega⟩)))
  unfold anyS
  rw [hs _ _ i1 i2, hs _ _ i2 i3, hs _ _ i3 i4, hs _ _ i4 i1, risP_off h1 h2 oA oA]
  have hb : bmB (min A.1 A.1, min A.2 A.2, max A.1 A.1, max A.2 A.2) (a, b, c, d) = false := by
    have h := of_decide_eq_false oA
    unfold bmB
    rw [decide_eq_false_iff_not]
    simp only at h ⊢
    omega
  rw [hb]
  rfl
theorem risP_hor (h1 : a < c) (h2 : b < d) {A B : Int × Int} (oA : inB (a, b, c, d) A = false) (oB : inB (a, b, c, d) B = false) {y : Int} (hA : A.2 = y) (hB : B.2 = y) (hy : b ≤ y ∧ y ≤ d) : risP (rl a b c d) A B = anyS a b c d A B := by
  obtain ⟨i1, i2, i3, i4⟩ := crn_in h1 h2
  obtain ⟨x1, y1⟩ := A
  obtain ⟨x2, y2⟩ := B
  simp only at hA hB
  subst hA hB
  have oA' : x1 < a ∨ c < x1 := by have h := of_decide_eq_false oA; simp only at h; omega
  have oB' : x2 < a ∨ c < x2 := by have h := of_decide_eq_false oB; simp only at h; omega
  rw [risP_off h1 h2 oA oB]
  by_cases hs : (x1 < a ∧ x2 < a) ∨ (c < x1 ∧ c < x2)
  · have hb : bmB (min x1 x2, min y2 y2, max x1 x2, max y2 y2) (a, b, c, d) = false := by
      unfold bmB
      rw [decide_eq_false_iff_not]
      simp only
      omega
    have hne : ∀ p, inB (a, b, c, d) p = true → gon (x1, y2) (x2, y2) p = false := fun p hp => by
      rw [Bool.eq_false_iff]
      intro hh
      have h := gon_in hh
      have hp := of_decide_eq_true hp
      simp only at h hp
      omega
    have k : ∀ m n : Int, m = n → (0 ≤ m ∧ 0 ≤ n) ∨ (m ≤ 0 ∧ n ≤ 0) := fun m n h => by omega
    have s1 : gmt (a, b) (c, b) (x1, y2) (x2, y2) = false := gmt_same (out_gon oA i1 i2) (out_gon oB i1 i2) (hne _ i1) (hne _ i2) ((k _ _ (by unfold gsd; simp)).elim .inl fun h => .inr (.inl h))
    have s3 : gmt (c, d) (a, d) (x1, y2) (x2, y2) = false := gmt_same (out_gon oA i3 i4) (out_gon oB i3 i4) (hne _ i3) (hne _ i4) ((k _ _ (by unfold gsd; simp)).elim .inl fun h => .inr (.inl h))
    have s2 : gmt (c, b) (c, d) (x1, y2) (x2, y2) = false := gmt_same (out_gon oA i2 i3) (out_gon oB i2 i3) (hne _ i2) (hne _ i3) (by
      unfold gsd
      simp only [Int.sub_self, Int.zero_mul, Int.zero_sub]
      rcases hs with ⟨g1, g2⟩ | ⟨g1, g2⟩
      · have := neg_mul (m := d - b) (n := x1 - c) (by omega) (by omega)
        have := neg_mul (m := d - b) (n := x2 - c) (by omega) (by omega)
        omega
      · have := pos_mul (m := d - b) (n := x1 - c) (by omega) (by omega)
        have := pos_mul (m := d - b) (n := x2 - c) (by omega) (by omega)
        omega)
    have s4 : gmt (a, d) (a, b) (x1, y2) (x2, y2) = false := gmt_same (out_gon oA i4 i1) (out_gon oB i4 i1) (hne _ i4) (hne _ i1) (by
      unfold gsd
      simp only [Int.sub_self, Int.zero_mul, Int.zero_sub]
      rcases hs with ⟨g1, g2⟩ | ⟨g1, g2⟩
      · have := npnp_mul (m := b - d) (n := x1 - a) (by omega) (by omega)
        have := npnp_mul (m := b - d) (n := x2 - a) (by omega) (by omega)
        omega
      · have := nn_mul (m := b - d) (n := x1 - a) (by omega) (by omega)
        have := nn_mul (m := b - d) (n := x2 - a) (by omega) (by omega)
        omega)
    unfold anyS
    rw [s1, s2, s3, s4, hb]
    rfl
  · have hb : bmB (min x1 x2, min y2 y2, max x1 x2, max y2 y2) (a, b, c, d) = true := by
      unfold bmB
      rw [decide_eq_true_iff]
      simp only
      omega
    have hx : ∀ x, a ≤ x → x ≤ c → ∀ p q : Int, ((p ≤ y2 ∧ y2 ≤ q) ∨ (q ≤ y2 ∧ y2 ≤ p)) → p ≠ q → ovl x1 y2 x2 y2 x p x q = false ∧ meets x1 y2 x2 y2 x p x q = true := by
      intro x e1 e2 p q e3 e4
      have n : x2 - x1 ≠ 0 := by omega
      have t1 : side x1 y2 x2 y2 x p = (x2 - x1) * (p - y2) := by unfold side; grind
      have t2 : side x1 y2 x2 y2 x q = (x2 - x1) * (q - y2) := by unfold side; grind
      have t3 : side x p x q x1 y2 = -((q - p) * (x1 - x)) := by unfold side; grind
      have t4 : side x p x q x2 y2 = -((q - p) * (x2 - x)) := by unfold side; grind
      have z : ∀ m n : Int, m ≠ 0 → n ≠ 0 → m * n ≠ 0 := fun m n h h' => Int.mul_ne_zero h h'
      have z3 := z (q - p) (x1 - x) (by omega) (by omega)
      refine ⟨?_, ?_⟩
      · unfold ovl
        rw [t1, t2, t3, t4]
        rw [Bool.or_eq_false_iff, Bool.and_eq_false_iff, Bool.and_eq_false_iff]
        refine ⟨?_, .inl (decide_eq_false (by omega))⟩
        rcases Classical.em (p = y2) with h | h
        · exact .inr (decide_eq_false (z _ _ n (by omega)))
        · exact .inl (decide_eq_false (z _ _ n (by omega)))
      · unfold meets apartB
        rw [decide_eq_true_iff, t1, t2, t3, t4]
        have m1 := @Int.le_total
        rcases Int.lt_or_le x1 x2 with g | g
        · refine ⟨?_, ?_⟩
          · rcases e3 with e3 | e3
            · exact .inl ⟨Int.mul_nonpos_of_nonneg_of_nonpos (by omega) (by omega), Int.mul_nonneg (by omega) (by omega)⟩
            · exact .inr ⟨Int.mul_nonpos_of_nonneg_of_nonpos (by omega) (by omega), Int.mul_nonneg (by omega) (by omega)⟩
          · rcases Int.lt_or_le p q with f | f
            · have := nonpos_mul (m := q - p) (n := x1 - x) (by omega) (by omega)
              have := nonneg_mul (m := q - p) (n := x2 - x) (by omega) (by omega)
              omega
            · have := npnp_mul (m := q - p) (n := x1 - x) (by omega) (by omega)
              have := nn_mul (m := q - p) (n := x2 - x) (by omega) (by omega)
              omega
        · refine ⟨?_, ?_⟩
          · rcases e3 with e3 | e3
            · exact .inr ⟨Int.mul_nonpos_of_nonpos_of_nonneg (by omega) (by omega), Int.mul_nonneg_of_nonpos_of_nonpos (by omega) (by omega)⟩
            · exact .inl ⟨Int.mul_nonpos_of_nonpos_of_nonneg (by omega) (by omega), Int.mul_nonneg_of_nonpos_of_nonpos (by omega) (by omega)⟩
          · rcases Int.lt_or_le p q with f | f
            · have := nonneg_mul (m := q - p) (n := x1 - x) (by omega) (by omega)
              have := nonpos_mul (m := q - p) (n := x2 - x) (by omega) (by omega)
              omega
            · have := nn_mul (m := q - p) (n := x1 - x) (by omega) (by omega)
              have := npnp_mul (m := q - p) (n := x2 - x) (by omega) (by omega)
              omega
    obtain ⟨o1, m1⟩ := hx c (by omega) (by omega) b d (.inl hy) (by omega)
    obtain ⟨o3, m3⟩ := hx a (by omega) (by omega) d b (.inr hy) (by omega)
    have f1 : sxp (x1, y2) (x2, y2) (c, b) (c, d) = true := (sx_meets o1).trans m1
    have f3 : sxp (x1, y2) (x2, y2) (a, d) (a, b) = true := (sx_meets o3).trans m3
    have g1 : gmt (c, b) (c, d) (x1, y2) (x2, y2) = true := (gmt_sym _ _ _ _).trans ((gmt_meets o1).trans m1)
    unfold anyS
    rw [f1, f3, hb, g1, cnt_two (f1 := true) (f3 := true) (by cases sxp (x1, y2) (x2, y2) (a, b) (c, b) <;> cases sxp (x1, y2) (x2, y2) (c, d) (a, d) <;> rfl)]
    simp
theorem risP_ver (h1 : a < c) (h2 : b < d) {A B : Int × Int} (oA : inB (a, b, c, d) A = false) (oB : inB (a, b, c, d) B = false) {x : Int} (hA : A.1 = x) (hB : B.1 = x) (hx : a ≤ x ∧ x ≤ c) : risP (rl a b c d) A B = anyS a b c d A B := by
  obtain ⟨i1, i2, i3, i4⟩ := crn_in h1 h2
  obtain ⟨x0, y1⟩ := A
  obtain ⟨x2, y2⟩ := B
  simp only at hA hB
  subst hA
  obtain rfl : x2 = x0 := hB
  have oA' : y1 < b ∨ d < y1 := by have h := of_decide_eq_false oA; simp only at h; omega
  have oB' : y2 < b ∨ d < y2 := by have h := of_decide_eq_false oB; simp only at h; omega
  rw [risP_off h1 h2 oA oB]
  by_cases hs : (y1 < b ∧ y2 < b) ∨ (d < y1 ∧ d < y2)
  · have hb : bmB (min x2 x2, min y1 y2, max x2 x2, max y1 y2) (a, b, c, d) = false := by
      unfold bmB
      rw [decide_eq_false_iff_not]
      simp only
      omega
    have hne : ∀ p, inB (a, b, c, d) p = true → gon (x2, y1) (x2, y2) p = false := fun p hp => by
      rw [Bool.eq_false_iff]
      intro hh
      have h := gon_in hh
      have hp := of_decide_eq_true hp
      simp only at h hp
      omega
    have k : ∀ m n : Int, m = n → (0 ≤ m ∧ 0 ≤ n) ∨ (m ≤ 0 ∧ n ≤ 0) := fun m n h => by omega
    have s2 : gmt (c, b) (c, d) (x2, y1) (x2, y2) = false := gmt_same (out_gon oA i2 i3) (out_gon oB i2 i3) (hne _ i2) (hne _ i3) ((k _ _ (by unfold gsd; simp)).elim .inl fun h => .inr (.inl h))
    have s4 : gmt (a, d) (a, b) (x2, y1) (x2, y2) = false := gmt_same (out_gon oA i4 i1) (out_gon oB i4 i1) (hne _ i4) (hne _ i1) ((k _ _ (by unfold gsd; simp)).elim .inl fun h => .inr (.inl h))
    have s1 : gmt (a, b) (c, b) (x2, y1) (x2, y2) = false := gmt_same (out_gon oA i1 i2) (out_gon oB i1 i2) (hne _ i1) (hne _ i2) (by
      unfold gsd
      simp only [Int.sub_self, Int.zero_mul, Int.sub_zero]
      rcases hs with ⟨g1, g2⟩ | ⟨g1, g2⟩
      · have := neg_mul (m := c - a) (n := y1 - b) (by omega) (by omega)
        have := neg_mul (m := c - a) (n := y2 - b) (by omega) (by omega)
        omega
      · have := pos_mul (m := c - a) (n := y1 - b) (by omega) (by omega)
        have := pos_mul (m := c - a) (n := y2 - b) (by omega) (by omega)
        omega)
    have s3 : gmt (c, d) (a, d) (x2, y1) (x2, y2) = false := gmt_same (out_gon oA i3 i4) (out_gon oB i3 i4) (hne _ i3) (hne _ i4) (by
      unfold gsd
      simp only [Int.sub_self, Int.zero_mul, Int.sub_zero]
      rcases hs with ⟨g1, g2⟩ | ⟨g1, g2⟩
      · have := npnp_mul (m := a - c) (n := y1 - d) (by omega) (by omega)
        have := npnp_mul (m := a - c) (n := y2 - d) (by omega) (by omega)
        omega
      · have := nn_mul (m := a - c) (n := y1 - d) (by omega) (by omega)
        have := nn_mul (m := a - c) (n := y2 - d) (by omega) (by omega)
        omega)
    unfold anyS
    rw [s1, s2, s3, s4, hb]
    rfl
  · have hb : bmB (min x2 x2, min y1 y2, max x2 x2, max y1 y2) (a, b, c, d) = true := by
      unfold bmB
      rw [decide_eq_true_iff]
      simp only
      omega
    have hv : ∀ y, b ≤ y → y ≤ d → ∀ p q : Int, ((p ≤ x2 ∧ x2 ≤ q) ∨ (q ≤ x2 ∧ x2 ≤ p)) → p ≠ q → ovl x2 y1 x2 y2 p y q y = false ∧ meets x2 y1 x2 y2 p y q y = true := by
      intro y e1 e2 p q e3 e4
      have n : y2 - y1 ≠ 0 := by omega
      have t1 : side x2 y1 x2 y2 p y = -((y2 - y1) * (p - x2)) := by unfold side; grind
      have t2 : side x2 y1 x2 y2 q y = -((y2 - y1) * (q - x2)) := by unfold side; grind
      have t3 : side p y q y x2 y1 = (q - p) * (y1 - y) := by unfold side; grind
      have t4 : side p y q y x2 y2 = (q - p) * (y2 - y) := by unfold side; grind
      have z : ∀ m n : Int, m ≠ 0 → n ≠ 0 → m * n ≠ 0 := fun m n h h' => Int.mul_ne_zero h h'
      have z3 := z (q - p) (y1 - y) (by omega) (by omega)
      refine ⟨?_, ?_⟩
      · unfold ovl
        rw [t1, t2, t3, t4]
        rw [Bool.or_eq_false_iff, Bool.and_eq_false_iff, Bool.and_eq_false_iff]
        refine ⟨?_, .inl (decide_eq_false (by omega))⟩
        rcases Classical.em (p = x2) with h | h
        · have := z (y2 - y1) (q - x2) n (by omega)
          exact .inr (decide_eq_false (by omega))
        · have := z (y2 - y1) (p - x2) n (by omega)
          exact .inl (decide_eq_false (by omega))
      · unfold meets apartB
        rw [decide_eq_true_iff, t1, t2, t3, t4]
        rcases Int.lt_or_le y1 y2 with g | g
        · refine ⟨?_, ?_⟩
          · rcases e3 with e3 | e3
            · have := nonpos_mul (m := y2 - y1) (n := p - x2) (by omega) (by omega)
              have := nonneg_mul (m := y2 - y1) (n := q - x2) (by omega) (by omega)
              omega
            · have := nonneg_mul (m := y2 - y1) (n := p - x2) (by omega) (by omega)
              have := nonpos_mul (m := y2 - y1) (n := q - x2) (by omega) (by omega)
              omega
          · rcases Int.lt_or_le p q with f | f
            · have := nonpos_mul (m := q - p) (n := y1 - y) (by omega) (by omega)
              have := nonneg_mul (m := q - p) (n := y2 - y) (by omega) (by omega)
              omega
            · have := npnp_mul (m := q - p) (n := y1 - y) (by omega) (by omega)
              have := nn_mul (m := q - p) (n := y2 - y) (by omega) (by omega)
              omega
        · refine ⟨?_, ?_⟩
          · rcases e3 with e3 | e3
            · have := npnp_mul (m := y2 - y1) (n := p - x2) (by omega) (by omega)
              have := nn_mul (m := y2 - y1) (n := q - x2) (by omega) (by omega)
              omega
            · have := nn_mul (m := y2 - y1) (n := p - x2) (by omega) (by omega)
              have := npnp_mul (m := y2 - y1) (n := q - x2) (by omega) (by omega)
              omega
          · rcases Int.lt_or_le p q with f | f
            · have := nonneg_mul (m := q - p) (n := y1 - y) (by omega) (by omega)
              have := nonpos_mul (m := q - p) (n := y2 - y) (by omega) (by omega)
              omega
            · have := nn_mul (m := q - p) (n := y1 - y) (by omega) (by omega)
              have := npnp_mul (m := q - p) (n := y2 - y) (by omega) (by omega)
              omega
    obtain ⟨o1, m1⟩ := hv b (by omega) (by omega) a c (.inl hx) (by omega)
    obtain ⟨o3, m3⟩ := hv d (by omega) (by omega) c a (.inr hx) (by omega)
    have f1 : sxp (x2, y1) (x2, y2) (a, b) (c, b) = true := (sx_meets o1).trans m1
    have f3 : sxp (x2, y1) (x2, y2) (c, d) (a, d) = true := (sx_meets o3).trans m3
    have g1 : gmt (a, b) (c, b) (x2, y1) (x2, y2) = true := (gmt_sym _ _ _ _).trans ((gmt_meets o1).trans m1)
    unfold anyS
    rw [f1, f3, hb, g1, cnt_two (f0 := true) (f2 := true) (by cases sxp (x2, y1) (x2, y2) (c, b) (c, d) <;> cases sxp (x2, y1) (x2, y2) (a, d) (a, b) <;> rfl)]
    simp
/-- **a segment and a rectangle, by geometry** -/
theorem risP_geo (h1 : a < c) (h2 : b < d) (A B : Int × Int) : risP (rl a b c d) A B = (inB (a, b, c, d) A || inB (a, b, c, d) B || anyS a b c d A B) := by
  have nearP : ∀ P : Int × Int, (P = A ∨ P = B) → inB (a, b, c, d) P = true → bmB (min A.1 B.1, min A.2 B.2, max A.1 B.1, max A.2 B.2) (a, b, c, d) = true := by
    intro P hP h
    have h := of_decide_eq_true h
    unfold bmB
    rw [decide_eq_true_iff]
    simp only at h ⊢
    rcases hP with rfl | rfl <;> omega
  cases gA : inB (a, b, c, d) A with
  | true =>
    unfold risP
    rw [rect_has h1 h2, rect_has h1 h2, rl_box (Int.le_of_lt h1) (Int.le_of_lt h2), nearP A (.inl rfl) gA, gA]
    rfl
  | false =>
    cases gB : inB (a, b, c, d) B with
    | true =>
      unfold risP
      rw [rect_has h1 h2, rect_has h1 h2, rl_box (Int.le_of_lt h1) (Int.le_of_lt h2), nearP B (.inr rfl) gB, gA, gB]
      rfl
    | false =>
      simp only [Bool.false_or]
      have hdeg : A = B → risP (rl a b c d) A B = anyS a b c d A B := fun h => by rw [← h]; exact risP_dg h1 h2 gA
      -- a segment on the line of a side
      have hcol : ∀ p q : Int × Int, (p.2 = q.2 ∧ p.1 ≠ q.1 ∧ b ≤ p.2 ∧ p.2 ≤ d) ∨ (p.1 = q.1 ∧ p.2 ≠ q.2 ∧ a ≤ p.1 ∧ p.1 ≤ c) → ovl A.1 A.2 B.1 B.2 p.1 p.2 q.1 q.2 = true → risP (rl a b c d) A B = anyS a b c d A B := by
        intro p q hpq ho
        unfold ovl at ho
        rw [Bool.or_eq_true, Bool.and_eq_true, Bool.and_eq_true, decide_eq_true_iff, decide_eq_true_iff, decide_eq_true_iff, decide_eq_true_iff] at ho
        rcases hpq with ⟨e1, e2, e3⟩ | ⟨e1, e2, e3⟩
        · rcases ho with ⟨t1, t2⟩ | ⟨t1, t2⟩
          · have u1 : (B.2 - A.2) * (q.1 - p.1) = 0 := by unfold side at t1 t2; grind
            have u2 : B.2 - A.2 = 0 := by
              rcases Int.mul_eq_zero.1 u1 with h | h
              · exact h
              · omega
            have u3 : (B.1 - A.1) * (p.2 - A.2) = 0 := by unfold side at t1; grind
            rcases Int.mul_eq_zero.1 u3 with h | h
            · exact hdeg (Prod.ext (by omega) (by omega))
            · exact risP_hor h1 h2 gA gB (y := p.2) (by omega) (by omega) e3
          · have u1 : (q.1 - p.1) * (A.2 - p.2) = 0 := by unfold side at t1; grind
            have u2 : (q.1 - p.1) * (B.2 - p.2) = 0 := by unfold side at t2; grind
            have v1 := (Int.mul_eq_zero.1 u1).resolve_left (by omega)
            have v2 := (Int.mul_eq_zero.1 u2).resolve_left (by omega)
            exact risP_hor h1 h2 gA gB (y := p.2) (by omega) (by omega) e3
        · rcases ho with ⟨t1, t2⟩ | ⟨t1, t2⟩
          · have u1 : (B.1 - A.1) * (q.2 - p.2) = 0 := by unfold side at t1 t2; grind
            have u2 : B.1 - A.1 = 0 := by
              rcases Int.mul_eq_zero.1 u1 with h | h
              · exact h
              · omega
            have u3 : (B.2 - A.2) * (p.1 - A.1) = 0 := by unfold side at t1; grind
            rcases Int.mul_eq_zero.1 u3 with h | h
            · exact hdeg (Prod.ext (by omega) (by omega))
            · exact risP_ver h1 h2 gA gB (x := p.1) (by omega) (by omega) e3
          · have u1 : (q.2 - p.2) * (A.1 - p.1) = 0 := by unfold side at t1; grind
            have u2 : (q.2 - p.2) * (B.1 - p.1) = 0 := by unfold side at t2; grind
            have v1 := (Int.mul_eq_zero.1 u1).resolve_left (by omega)
            have v2 := (Int.mul_eq_zero.1 u2).resolve_left (by omega)
            exact risP_ver h1 h2 gA gB (x := p.1) (by omega) (by omega) e3
      cases o0 : ovl A.1 A.2 B.1 B.2 a b c b with
      | true => exact hcol (a, b) (c, b) (.inl ⟨rfl, by simp only; omega, by simp only; omega⟩) o0
      | false =>
        cases o1 : ovl A.1 A.2 B.1 B.2 c b c d with
        | true => exact hcol (c, b) (c, d) (.inr ⟨rfl, by simp only; omega, by simp only; omega⟩) o1
        | false =>
          cases o2 : ovl A.1 A.2 B.1 B.2 c d a d with
          | true => exact hcol (c, d) (a, d) (.inl ⟨rfl, by simp only; omega, by simp only; omega⟩) o2
          | false =>
            cases o3 : ovl A.1 A.2 B.1 B.2 a d a b with
            | true => exact hcol (a, d) (a, b) (.inr ⟨rfl, by simp only; omega, by simp only; omega⟩) o3
            | false =>
              rw [risP_rl h1 h2 A B o0 o1 o2 o3, gA, gB]
              unfold anyS
              have e0 : gmt (a, b) (c, b) A B = _ := (gmt_sym _ _ _ _).trans (gmt_meets o0)
              have e1 : gmt (c, b) (c, d) A B = _ := (gmt_sym _ _ _ _).trans (gmt_meets o1)
              have e2 : gmt (c, d) (a, d) A B = _ := (gmt_sym _ _ _ _).trans (gmt_meets o2)
              have e3 : gmt (a, d) (a, b) A B = _ := (gmt_sym _ _ _ _).trans (gmt_meets o3)
              rw [e0, e1, e2, e3]
              rfl
theorem crn_rl : cls (crn a b c d) = rl a b c d := rfl
theorem crn_has (h1 : a < c) (h2 : b < d) (p : Int × Int) : ringHas (crn a b c d) p true = inB (a, b, c, d) p := by
  rw [(cls_like (l := crn a b c d) (by simp [crn]) (by simp [crn, at']; omega)).has, crn_rl, rect_has h1 h2]
/-- a ring without its rectangle -/
theorem has_nobox {l : List (Int × Int)} (h3 : 3 ≤ l.length) (p : Int × Int) : ringHas l p true = (aon l p (nSeg true l) || xrs l p (nSeg true l)) := by
  obtain ⟨e1, e2⟩ := ring_all (p := p) h3
  rw [ringHas_al true h3, e1, e2]
  cases aon l p l.length <;> cases xrs l p l.length <;> rfl
/-- spec.SceneLine, of a polygon without holes -/
def scL (l m : List (Int × Int)) : Bool := anyN (fun i => ringHas l (at' m i) true || (decide (0 < i) && anyN (fun k => gmt (at' l k) (nxp l k) (at' m (i - 1)) (at' m i)) l.length)) m.length
/-- **a rectangle and a line meet just if they have a point in common** -/
theorem ril_scL (h1 : a < c) (h2 : b < d) (m : List (Int × Int)) (hm : 2 ≤ m.length) : rilV (rl a b c d) m = scL (crn a b c d) m := by
  have e4 : ∀ A B, anyN (fun k => gmt (at' (crn a b c d) k) (nxp (crn a b c d) k) A B) 4 = anyS a b c d A B := fun A B => rfl
  have hnx : ∀ i, i + 1 < m.length → nxp m i = at' m (i + 1) := fun i hi => by unfold nxp; rw [if_neg (by omega)]
  have hseg : ∀ i, i + 1 < m.length → risV (rl a b c d) m i = (inB (a, b, c, d) (at' m i) || inB (a, b, c, d) (at' m (i + 1)) || anyS a b c d (at' m i) (at' m (i + 1))) := by
    intro i hi
    rw [← hnx i hi]
    exact risP_geo h1 h2 (at' m i) (nxp m i)
  unfold rilV scL
  rw [anyN_congr (f := fun k => ringHas (rl a b c d) (at' m k) true) fun k _ => rect_has h1 h2 (at' m k), rl_box (Int.le_of_lt h1) (Int.le_of_lt h2)]
  rw [Bool.eq_iff_iff, Bool.and_eq_true, Bool.or_eq_true, anyN_iff, anyN_iff, anyN_iff]
  show _ ↔ ∃ k, k < m.length ∧ (ringHas (crn a b c d) (at' m k) true || (decide (0 < k) && anyN (fun j => gmt (at' (crn a b c d) j) (nxp (crn a b c d) j) (at' m (k - 1)) (at' m k)) 4)) = true
  simp only [e4, crn_has h1 h2]
  constructor
  · rintro ⟨-, ⟨k, hk, e⟩ | ⟨i, hi, e⟩⟩
    · exact ⟨k, hk, by rw [e]; rfl⟩
    · rw [hseg i (by omega), Bool.or_eq_true, Bool.or_eq_true] at e
      rcases e with (e | e) | e
      · exact ⟨i, by omega, by rw [e]; rfl⟩
      · exact ⟨i + 1, by omega, by rw [e]; rfl⟩
      · exact ⟨i + 1, by omega, by rw [Nat.add_sub_cancel, e, decide_eq_true (by omega), Bool.and_self, Bool.or_true]⟩
  · rintro ⟨j, hj, e⟩
    have hbox := (box_spec m (by omega)).1
    have ebx : ppB false m = box m := by unfold ppB tooS; rw [if_neg (by simp; try omega)]
    rw [Bool.or_eq_true] at e
    rcases e with e | e
    · refine ⟨?_, .inl ⟨j, hj, e⟩⟩
      have e := of_decide_eq_true e
      have hb := hbox (at' m j) (List.mem_of_getElem? (at_get hj))
      rw [ebx]
      unfold bmB
      rw [decide_eq_true_iff]
      simp only at e ⊢
      omega
    · rw [Bool.and_eq_true, decide_eq_true_iff] at e
      obtain ⟨i, rfl⟩ : ∃ i, j = i + 1 := ⟨j - 1, by omega⟩
      rw [Nat.add_sub_cancel] at e
      have er : risV (rl a b c d) m i = true := by rw [hseg i hj, e.2, Bool.or_true]
      refine ⟨?_, .inr ⟨i, by omega, er⟩⟩
      have er' : risP (rl a b c d) (at' m i) (nxp m i) = true := er
      unfold risP at er'
      rw [Bool.and_eq_true, rl_box (Int.le_of_lt h1) (Int.le_of_lt h2)] at er'
      have e2 := of_decide_eq_true er'.1
      have hb := hbox (at' m i) (List.mem_of_getElem? (at_get (by omega)))
      have hb2 := hbox (nxp m i) (by rw [hnx i hj]; exact List.mem_of_getElem? (at_get hj))
      rw [ebx]
      unfold bmB
      rw [decide_eq_true_iff]
      simp only at e2 ⊢
      omega
end
end Go.Proofs.YtbeoijpdacpaaaaGreat
