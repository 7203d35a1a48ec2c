import Derived.Test.YtcoeiimohkofjaaGreatQX
import Derived.Test.YtcoeiimohkofjaaGreatYi
import Derived.Deep.Upon
set_option linter.unusedSimpArgs false
set_option linter.unusedVariables false
/-! Plane geometry: a segment whose ends are outside a ring meets none of its edges, or two; so a ring and a line meet just if they have a point in common. -/
namespace PF
section
variable {P Q a b : Int × Int}
/-- two segments cross, each within the other -/
def crs (P Q a b : Int × Int) : Prop := ((0 < gsd P Q a ∧ gsd P Q b < 0) ∨ (gsd P Q a < 0 ∧ 0 < gsd P Q b)) ∧ ((0 < gsd a b P ∧ gsd a b Q < 0) ∨ (gsd a b P < 0 ∧ 0 < gsd a b Q))
theorem crs_swap1 (h : crs P Q a b) : crs Q P a b := by
  have e1 := gsd_swap P Q a
  have e2 := gsd_swap P Q b
  unfold crs at h ⊢
  omega
theorem gmt_cases (h : gmt P Q a b = true) : gon P Q a = true ∨ gon P Q b = true ∨ gon a b P = true ∨ gon a b Q = true ∨ crs P Q a b := by
  unfold gmt at h
  rw [Bool.or_eq_true, Bool.or_eq_true, Bool.or_eq_true, Bool.or_eq_true, Bool.and_eq_true, decide_eq_true_iff, decide_eq_true_iff, gsgn_neg, gsgn_neg] at h
  rcases h with (((h | h) | h) | h) | ⟨h1, h2⟩
  · exact .inl h
  · exact .inr (.inl h)
  · exact .inr (.inr (.inl h))
  · exact .inr (.inr (.inr (.inl h)))
  · exact .inr (.inr (.inr (.inr ⟨h1.elim .inr .inl, h2.elim .inr .inl⟩)))
theorem gmt_3 (h : gon a b P = true) : gmt P Q a b = true := by unfold gmt; rw [h, Bool.or_true, Bool.true_or, Bool.true_or]
end
end PF
namespace Go.Proofs.YtcoeiimohkofjaaGreat
open Go.RowKit PF JR
end Go.Proofs.YtcoeiimohkofjaaGreat
set_option linter.unusedSimpArgs false
set_option linter.unusedVariables false
/-! Plane geometry: two segments meet just if they have a point in common (whole, once all is scaled); so a path of two segments that cross keeps its side of a ring that it does not meet. -/
namespace PF
def scl (D : Int) (p : Int × Int) : Int × Int := (D * p.1, D * p.2)
section
variable {P Q X Y M a b c d p q r : Int × Int} {D : Int}
theorem scl_one (p : Int × Int) : scl 1 p = p := by unfold scl; rw [Int.one_mul, Int.one_mul]
theorem gsd_scl : gsd (scl D a) (scl D b) (scl D p) = D * D * gsd a b p := by unfold gsd scl; grind
theorem mulD_le (hD : 0 < D) {x y : Int} : D * x ≤ D * y ↔ x ≤ y := ⟨fun h => Int.le_of_mul_le_mul_left h hD, fun h => Int.mul_le_mul_of_nonneg_left h (by omega)⟩
theorem mulD_zero (hD : 0 < D) {x : Int} : D * D * x = 0 ↔ x = 0 := by
  constructor
  · intro h
    have h2 := mpp hD hD
    rcases Int.mul_eq_zero.1 h with g | g
    · omega
    · exact g
  · intro h; rw [h, Int.mul_zero]
theorem mulD_pos (hD : 0 < D) {x : Int} : 0 < D * D * x ↔ 0 < x := by
  have h2 := mpp hD hD
  constructor
  · exact fun h => pos_of_mul (by omega) h
  · exact fun h => mpp h2 h
theorem mulD_neg (hD : 0 < D) {x : Int} : D * D * x < 0 ↔ x < 0 := by
  have h1 := mulD_pos hD (x := x)
  have h2 := mulD_zero hD (x := x)
  omega
theorem gsgn_scl (hD : 0 < D) (x : Int) : gsgn (D * D * x) = gsgn x := by
  have h1 := mulD_pos hD (x := x)
  have h2 := mulD_neg hD (x := x)
  unfold gsgn
  split <;> split <;> (try split) <;> (try split) <;> omega
theorem gon_swap (a b p : Int × Int) : gon b a p = gon a b p := by
  unfold gon gwi; rw [gsd_swap a b p, Int.min_comm, Int.max_comm, Int.min_comm b.2, Int.max_comm b.2, decide_eq_decide.2 (show -gsd a b p = 0 ↔ gsd a b p = 0 by omega)]
theorem gon_scl (hD : 0 < D) : gon (scl D a) (scl D b) (scl D p) = gon a b p := by
  have l1 := mulD_le hD (x := a.1) (y := p.1)
  have l2 := mulD_le hD (x := p.1) (y := b.1)
  have l3 := mulD_le hD (x := b.1) (y := p.1)
  have l4 := mulD_le hD (x := p.1) (y := a.1)
  have l5 := mulD_le hD (x := a.2) (y := p.2)
  have l6 := mulD_le hD (x := p.2) (y := b.2)
  have l7 := mulD_le hD (x := b.2) (y := p.2)
  have l8 := mulD_le hD (x := p.2) (y := a.2)
  have l9 := mulD_zero hD (x := gsd a b p)
  rw [Bool.eq_iff_iff, gon_iff, gon_iff, gsd_scl, l9]
  unfold scl
  simp only
  omega
theorem gmt_scl (hD : 0 < D) (a b c d : Int × Int) : gmt (scl D a) (scl D b) (scl D c) (scl D d) = gmt a b c d := by
  unfold gmt
  rw [gon_scl hD, gon_scl hD, gon_scl hD, gon_scl hD, gsd_scl, gsd_scl, gsd_scl, gsd_scl, gsgn_scl hD, gsgn_scl hD, gsgn_scl hD, gsgn_scl hD]
theorem conv_box {t u x y : Int} (ht : 0 ≤ t) (hu : 0 ≤ u) : min ((t + u) * x) ((t + u) * y) ≤ t * y + u * x ∧ t * y + u * x ≤ max ((t + u) * x) ((t + u) * y) := by
  have e1 : (t + u) * x = t * x + u * x := by grind
  have e2 : (t + u) * y = t * y + u * y := by grind
  rw [e1, e2]
  rcases Int.le_total x y with h | h
  · have h1 := Int.mul_le_mul_of_nonneg_left h ht
    have h2 := Int.mul_le_mul_of_nonneg_left h hu
    omega
  · have h1 := Int.mul_le_mul_of_nonneg_left h ht
    have h2 := Int.mul_le_mul_of_nonneg_left h hu
    omega
theorem crs_common (h : crs P Q a b) (ht : 0 < gsd a b P ∧ gsd a b Q < 0) : ∃ D X, 0 < D ∧ gon (scl D P) (scl D Q) X = true ∧ gon (scl D a) (scl D b) X = true := by
  have i3 := se3 (P := P) (Q := Q) (a := a) (b := b)
  have b1 : gsd a b P * Q.1 + -gsd a b Q * P.1 = -gsd P Q a * b.1 + gsd P Q b * a.1 := by unfold gsd; grind
  have b2 : gsd a b P * Q.2 + -gsd a b Q * P.2 = -gsd P Q a * b.2 + gsd P Q b * a.2 := by unfold gsd; grind
  have z1 : gsd (scl (gsd a b P + -gsd a b Q) P) (scl (gsd a b P + -gsd a b Q) Q) (gsd a b P * Q.1 + -gsd a b Q * P.1, gsd a b P * Q.2 + -gsd a b Q * P.2) = 0 := by
    generalize gsd a b P = t
    generalize gsd a b Q = u
    unfold gsd scl; simp only; grind
  have z2 : gsd (scl (gsd a b P + -gsd a b Q) a) (scl (gsd a b P + -gsd a b Q) b) (gsd a b P * Q.1 + -gsd a b Q * P.1, gsd a b P * Q.2 + -gsd a b Q * P.2) = 0 := by
    have k : ∀ t u : Int, gsd (scl (t + -u) a) (scl (t + -u) b) (t * Q.1 + -u * P.1, t * Q.2 + -u * P.2) = (t + -u) * (t * gsd a b Q - u * gsd a b P) := fun t u => by unfold gsd scl; simp only; grind
    rw [k, show gsd a b P * gsd a b Q - gsd a b Q * gsd a b P = 0 by rw [Int.mul_comm]; omega, Int.mul_zero]
  unfold crs at h
  refine ⟨gsd a b P + -gsd a b Q, (gsd a b P * Q.1 + -gsd a b Q * P.1, gsd a b P * Q.2 + -gsd a b Q * P.2), by omega, gon_iff.2 ⟨?_, z1⟩, gon_iff.2 ⟨?_, z2⟩⟩
  · have c1 := conv_box (t := gsd a b P) (u := -gsd a b Q) (x := P.1) (y := Q.1) (by omega) (by omega)
    have c2 := conv_box (t := gsd a b P) (u := -gsd a b Q) (x := P.2) (y := Q.2) (by omega) (by omega)
    exact ⟨c1.1, c1.2, c2.1, c2.2⟩
  · have c1 := conv_box (t := -gsd P Q a) (u := gsd P Q b) (x := a.1) (y := b.1) (by omega) (by omega)
    have c2 := conv_box (t := -gsd P Q a) (u := gsd P Q b) (x := a.2) (y := b.2) (by omega) (by omega)
    rw [← b1, show -gsd P Q a + gsd P Q b = gsd a b P + -gsd a b Q by omega] at c1
    rw [← b2, show -gsd P Q a + gsd P Q b = gsd a b P + -gsd a b Q by omega] at c2
    exact ⟨c1.1, c1.2, c2.1, c2.2⟩
/-- two segments that meet have a point in common, whole once all is scaled -/
theorem gmt_common (h : gmt P Q a b = true) : ∃ D X, 0 < D ∧ gon (scl D P) (scl D Q) X = true ∧ gon (scl D a) (scl D b) X = true := by
  rcases gmt_cases h with g | g | g | g | g
  · exact ⟨1, a, by omega, by rw [scl_one, scl_one]; exact g, by rw [scl_one, scl_one]; exact gon_a _ _⟩
  · exact ⟨1, b, by omega, by rw [scl_one, scl_one]; exact g, by rw [scl_one, scl_one]; exact gon_b _ _⟩
  · exact ⟨1, P, by omega, by rw [scl_one, scl_one]; exact gon_a _ _, by rw [scl_one, scl_one]; exact g⟩
  · exact ⟨1, Q, by omega, by rw [scl_one, scl_one]; exact gon_b _ _, by rw [scl_one, scl_one]; exact g⟩
  · rcases g.2 with k | k
    · exact crs_common g k
    · obtain ⟨D, X, h1, h2, h3⟩ := crs_common (crs_swap1 g) ⟨k.2, k.1⟩
      exact ⟨D, X, h1, by rw [gon_swap]; exact h2, h3⟩
theorem gon_deg (h : gon a a X = true) : X = a := by
  have h := (gon_iff.1 h).1
  exact Prod.ext (by omega) (by omega)
/-- a point on a segment is a mean of its ends -/
theorem gon_par (h : gon P Q X = true) : ∃ n k : Int, 0 ≤ k ∧ k ≤ n ∧ 0 < n ∧ n * X.1 = (n - k) * P.1 + k * Q.1 ∧ n * X.2 = (n - k) * P.2 + k * Q.2 := by
  by_cases e : P = Q
  · subst e
    have e := gon_deg h
    subst e
    exact ⟨1, 0, by omega, by omega, by omega, by omega, by omega⟩
  obtain ⟨hb, hz⟩ := gon_iff.1 h
  have d1 : 0 ≤ (X.1 - P.1) * (Q.1 - P.1) := by
    rcases Int.le_total P.1 Q.1 with g | g
    · exact mqq (by omega) (by omega)
    · exact mrr (by omega) (by omega)
  have d2 : 0 ≤ (X.2 - P.2) * (Q.2 - P.2) := by
    rcases Int.le_total P.2 Q.2 with g | g
    · exact mqq (by omega) (by omega)
    · exact mrr (by omega) (by omega)
  have d3 : 0 ≤ (Q.1 - X.1) * (Q.1 - P.1) := by
    rcases Int.le_total P.1 Q.1 with g | g
    · exact mqq (by omega) (by omega)
    · exact mrr (by omega) (by omega)
  have d4 : 0 ≤ (Q.2 - X.2) * (Q.2 - P.2) := by
    rcases Int.le_total P.2 Q.2 with g | g
    · exact mqq (by omega) (by omega)
    · exact mrr (by omega) (by omega)
  have e1 : (Q.1 - P.1) * (Q.1 - P.1) = (X.1 - P.1) * (Q.1 - P.1) + (Q.1 - X.1) * (Q.1 - P.1) := by grind
  have e2 : (Q.2 - P.2) * (Q.2 - P.2) = (X.2 - P.2) * (Q.2 - P.2) + (Q.2 - X.2) * (Q.2 - P.2) := by grind
  refine ⟨(Q.1 - P.1) * (Q.1 - P.1) + (Q.2 - P.2) * (Q.2 - P.2), (X.1 - P.1) * (Q.1 - P.1) + (X.2 - P.2) * (Q.2 - P.2), by omega, by omega, ?_, ?_, ?_⟩
  · have s1 : 0 ≤ (Q.1 - P.1) * (Q.1 - P.1) := by omega
    have s2 : 0 ≤ (Q.2 - P.2) * (Q.2 - P.2) := by omega
    rcases (show Q.1 - P.1 ≠ 0 ∨ Q.2 - P.2 ≠ 0 from Classical.byContradiction fun hn => e (Prod.ext (by omega) (by omega))) with g | g
    · have : (Q.1 - P.1) * (Q.1 - P.1) ≠ 0 := fun h => g ((Int.mul_eq_zero.1 h).elim id id)
      omega
    · have : (Q.2 - P.2) * (Q.2 - P.2) ≠ 0 := fun h => g ((Int.mul_eq_zero.1 h).elim id id)
      omega
  · unfold gsd at hz; grind
  · unfold gsd at hz; grind
/-- how far along a b -/
def tau (a b p : Int × Int) : Int := (p.1 - a.1) * (b.1 - a.1) + (p.2 - a.2) * (b.2 - a.2)
theorem tau_pos (h : a ≠ b) : 0 < tau a b b := by
  unfold tau
  have s1 : 0 ≤ (b.1 - a.1) * (b.1 - a.1) := by
    rcases Int.le_total a.1 b.1 with g | g
    · exact mqq (by omega) (by omega)
    · exact mrr (by omega) (by omega)
  have s2 : 0 ≤ (b.2 - a.2) * (b.2 - a.2) := by
    rcases Int.le_total a.2 b.2 with g | g
    · exact mqq (by omega) (by omega)
    · exact mrr (by omega) (by omega)
  rcases (show b.1 - a.1 ≠ 0 ∨ b.2 - a.2 ≠ 0 from Classical.byContradiction fun hn => h (Prod.ext (by omega) (by omega))) with g | g
  · have : (b.1 - a.1) * (b.1 - a.1) ≠ 0 := fun h => g ((Int.mul_eq_zero.1 h).elim id id)
    omega
  · have : (b.2 - a.2) * (b.2 - a.2) ≠ 0 := fun h => g ((Int.mul_eq_zero.1 h).elim id id)
    omega
theorem tau_1 (hp : gsd a b p = 0) : tau a b b * (p.1 - a.1) = tau a b p * (b.1 - a.1) := by unfold tau; unfold gsd at hp; grind
theorem tau_2 (hp : gsd a b p = 0) : tau a b b * (p.2 - a.2) = tau a b p * (b.2 - a.2) := by unfold tau; unfold gsd at hp; grind
theorem col_box {N t1 t2 t3 e x1 x2 x3 : Int} (hN : 0 < N) (h1 : N * x1 = t1 * e) (h2 : N * x2 = t2 * e) (h3 : N * x3 = t3 * e) (hb : t1 ≤ t3 ∧ t3 ≤ t2) : min x1 x2 ≤ x3 ∧ x3 ≤ max x1 x2 := by
  have l1 := mulD_le hN (x := x1) (y := x3)
  have l2 := mulD_le hN (x := x3) (y := x2)
  have l3 := mulD_le hN (x := x3) (y := x1)
  have l4 := mulD_le hN (x := x2) (y := x3)
  rcases Int.le_total 0 e with g | g
  · have k1 := Int.mul_le_mul_of_nonneg_right hb.1 g
    have k2 := Int.mul_le_mul_of_nonneg_right hb.2 g
    omega
  · have k1 := mrr (m := t1 - t3) (n := e) (by omega) g
    have k2 := mrr (m := t3 - t2) (n := e) (by omega) g
    rw [Int.sub_mul] at k1 k2
    omega
/-- points of one line, in order -/
theorem col_on (hab : a ≠ b) (hp : gsd a b p = 0) (hq : gsd a b q = 0) (hr : gsd a b r = 0) (h : tau a b p ≤ tau a b r ∧ tau a b r ≤ tau a b q) : gon p q r = true := by
  have hN := tau_pos hab
  have p1 := tau_1 hp
  have p2 := tau_2 hp
  have q1 := tau_1 hq
  have q2 := tau_2 hq
  have r1 := tau_1 hr
  have r2 := tau_2 hr
  clear hp hq hr
  generalize tau a b b = N at *
  generalize tau a b p = t1 at *
  generalize tau a b q = t2 at *
  generalize tau a b r = t3 at *
  have c1 := col_box hN p1 q1 r1 h
  have c2 := col_box hN p2 q2 r2 h
  refine gon_iff.2 ⟨by omega, ?_⟩
  have k : N * N * gsd p q r = 0 := by
    have e : N * N * gsd p q r = (N * (q.1 - a.1) - N * (p.1 - a.1)) * (N * (r.2 - a.2) - N * (p.2 - a.2)) - (N * (q.2 - a.2) - N * (p.2 - a.2)) * (N * (r.1 - a.1) - N * (p.1 - a.1)) := by unfold gsd; grind
    rw [e, p1, p2, q1, q2, r1, r2]
    grind
  exact (mulD_zero hN).1 k
/-- **two segments with a point in common meet** -/
theorem gmt_point (h1 : gon P Q X = true) (h2 : gon a b X = true) : gmt P Q a b = true := by
  cases hm : gmt P Q a b with
  | true => rfl
  | false =>
    exfalso
    obtain ⟨g1, g2, g3, g4, g5⟩ := gmt_f hm
    obtain ⟨n, k, k0, kn, n0, e1, e2⟩ := gon_par h1
    obtain ⟨m, j, j0, jm, m0, f1, f2⟩ := gon_par h2
    have i3 := se3 (P := P) (Q := Q) (a := a) (b := b)
    have zX := (gon_iff.1 h2).2
    have zY := (gon_iff.1 h1).2
    have c1 : (n - k) * gsd a b P + k * gsd a b Q = 0 := by
      have : n * gsd a b X = (n - k) * gsd a b P + k * gsd a b Q := by unfold gsd; grind
      rw [← this, zX, Int.mul_zero]
    have c2 : (m - j) * gsd P Q a + j * gsd P Q b = 0 := by
      have : m * gsd P Q X = (m - j) * gsd P Q a + j * gsd P Q b := by unfold gsd; grind
      rw [← this, zY, Int.mul_zero]
    have cz : ∀ {n x y : Int}, 0 < n → n * x = n * y → x = y := fun hn h => Int.eq_of_mul_eq_mul_left (by omega) h
    have hk0 : k ≠ 0 := fun h => by
      subst h
      have : X = P := Prod.ext (cz n0 (by rw [e1]; grind)) (cz n0 (by rw [e2]; grind))
      rw [this, g3] at h2; cases h2
    have hkn : k ≠ n := fun h => by
      subst h
      have : X = Q := Prod.ext (cz n0 (by rw [e1]; omega)) (cz n0 (by rw [e2]; omega))
      rw [this, g4] at h2; cases h2
    have hj0 : j ≠ 0 := fun h => by
      subst h
      have : X = a := Prod.ext (cz m0 (by rw [f1]; grind)) (cz m0 (by rw [f2]; grind))
      rw [this, g1] at h1; cases h1
    have hjm : j ≠ m := fun h => by
      subst h
      have : X = b := Prod.ext (cz m0 (by rw [f1]; omega)) (cz m0 (by rw [f2]; omega))
      rw [this, g2] at h1; cases h1
    have opp : ∀ {x y s t : Int}, 0 < s → 0 < t → s * x + t * y = 0 → (x = 0 ∧ y = 0) ∨ (0 < x ∧ y < 0) ∨ (x < 0 ∧ 0 < y) := by
      intro x y s t hs ht h
      rcases Int.lt_trichotomy x 0 with g | g | g
      · have := mpn hs g
        have := pos_of_mul (m := t) (n := y) (by omega) (by omega)
        omega
      · subst g
        rw [Int.mul_zero] at h
        rcases Int.mul_eq_zero.1 (show t * y = 0 by omega) with g | g <;> omega
      · have := mpp hs g
        have := neg_of_mul (m := t) (n := y) (by omega) (by omega)
        omega
    have o1 := opp (by omega) (by omega) c1
    have o2 := opp (by omega) (by omega) c2
    have hz : gsd a b P = 0 ∧ gsd a b Q = 0 := by omega
    clear o1 o2 g5 c1 c2 i3
    have hab : a ≠ b := fun h => by
      subst h
      have := gon_deg h2
      subst this
      rw [g1] at h1; cases h1
    have hN := tau_pos hab
    have tX : n * tau a b X = (n - k) * tau a b P + k * tau a b Q := by unfold tau; grind
    have tY : m * tau a b X = j * tau a b b := by unfold tau; grind
    have za := gsd_a a b
    have zb := gsd_b a b
    have ta : tau a b a = 0 := by unfold tau; grind
    have w1 : ¬ (0 ≤ tau a b P ∧ tau a b P ≤ tau a b b) := fun h => by rw [col_on hab za zb hz.1 (by rw [ta]; exact h)] at g3; cases g3
    have w2 : ¬ (0 ≤ tau a b Q ∧ tau a b Q ≤ tau a b b) := fun h => by rw [col_on hab za zb hz.2 (by rw [ta]; exact h)] at g4; cases g4
    have w3 : ¬ (tau a b P ≤ 0 ∧ 0 ≤ tau a b Q) := fun h => by rw [col_on hab hz.1 hz.2 za (by rw [ta]; exact h)] at g1; cases g1
    have w4 : ¬ (tau a b Q ≤ 0 ∧ 0 ≤ tau a b P) := fun h => by rw [gon_swap, col_on hab hz.2 hz.1 za (by rw [ta]; exact h)] at g1; cases g1
    have x0 : 0 < tau a b X := pos_of_mul (m := m) (by omega) (by rw [tY]; exact mpp (by omega) hN)
    have x1 : tau a b X < tau a b b := by
      have : 0 < m * (tau a b b - tau a b X) := by
        rw [Int.mul_sub, tY, ← Int.sub_mul]; exact mpp (by omega) hN
      have := pos_of_mul (m := m) (by omega) this
      omega
    generalize tau a b P = tp at *
    generalize tau a b Q = tq at *
    generalize tau a b X = tx at *
    generalize tau a b b = N at *
    -- P and Q on one side of both a and b
    rcases (show (N < tp ∧ N < tq) ∨ (tp < 0 ∧ tq < 0) by omega) with g | g
    · have s1 := mpp (m := n - k) (n := tp - N) (by omega) (by omega)
      have s2 := mpp (m := k) (n := tq - N) (by omega) (by omega)
      have s3 : n * (tx - N) = (n - k) * (tp - N) + k * (tq - N) := by rw [Int.mul_sub, tX]; grind
      have s4 := mpn (m := n) (n := tx - N) (by omega) (by omega)
      omega
    · have s1 := mpn (m := n - k) (n := tp) (by omega) (by omega)
      have s2 := mpn (m := k) (n := tq) (by omega) (by omega)
      have s3 := mpp (m := n) (n := tx) (by omega) (by omega)
      omega
theorem gon_trans (h1 : gon P Q X = true) (h2 : gon P X Y = true) : gon P Q Y = true := by
  obtain ⟨b1, z1⟩ := gon_iff.1 h1
  obtain ⟨b2, z2⟩ := gon_iff.1 h2
  refine gon_iff.2 ⟨by omega, ?_⟩
  by_cases e : X = P
  · subst e
    have := gon_deg h2
    subst this
    exact gsd_a _ _
  · have k1 : (X.1 - P.1) * gsd P Q Y = 0 := by unfold gsd at z1 z2 ⊢; grind
    have k2 : (X.2 - P.2) * gsd P Q Y = 0 := by unfold gsd at z1 z2 ⊢; grind
    rcases Int.mul_eq_zero.1 k1 with g | g
    · rcases Int.mul_eq_zero.1 k2 with g' | g'
      · exact absurd (Prod.ext (by omega) (by omega)) e
      · exact g'
    · exact g
/-- what a part of a segment meets, it meets -/
theorem gmt_sub (h1 : gon P Q X = true) (h : gmt P X a b = true) : gmt P Q a b = true := by
  obtain ⟨D, Y, hD, g1, g2⟩ := gmt_common h
  rw [← gmt_scl hD]
  exact gmt_point (gon_trans (by rw [gon_scl hD]; exact h1) g1) g2
end
end PF
namespace Go.Proofs.YtcoeiimohkofjaaGreat
open Go.RowKit PF JR
end Go.Proofs.YtcoeiimohkofjaaGreat
set_option linter.unusedSimpArgs false
set_option linter.unusedVariables false
/-! Scene polygons, plain: rings that stand apart; the points on their edges. -/
namespace Go.Proofs.YtcoeiimohkofjaaGreat
open Go.RowKit PF JR
theorem scp_facts {l : List (Int × Int)} {H : List (List (Int × Int))} (h : scpB l H = true) : (3 ≤ l.length ∧ l.length ≤ 12 ∧ ∀ p ∈ l, okS p = true) ∧ H.length ≤ 2 ∧ ∀ x ∈ H, 3 ≤ x.length ∧ x.length ≤ 6 ∧ ∀ p ∈ x, okS p = true := by
  unfold scpB at h
  simp only [Bool.and_eq_true, decide_eq_true_eq, Bool.not_eq_true'] at h
  obtain ⟨h1, h2, h3⟩ := h
  refine ⟨sim_bs h1, h2, fun x hx => ?_⟩
  obtain ⟨j, hj, e⟩ := List.mem_iff_getElem.1 hx
  have h4 := anyN_pre h3 hj
  have e2 : H.getD j [] = x := by rw [List.getD_eq_getElem?_getD, List.getElem?_eq_getElem hj, e]; rfl
  unfold scBad at h4
  rw [e2] at h4
  simp only [Bool.or_eq_false_iff, decide_eq_false_iff_not, Bool.not_eq_false'] at h4
  obtain ⟨g1, g2, g3⟩ := sim_bs h4.2.1
  exact ⟨g1, by omega, g3⟩
theorem okS_3 {p : Int × Int} (h : okS p = true) : Bn3 p := by
  have := of_decide_eq_true h
  unfold Bn3; omega
theorem scp_ok {l : List (Int × Int)} {H : List (List (Int × Int))} (h : scpB l H = true) : ShOk 3 l H := by
  obtain ⟨⟨h1, h2, h3⟩, h4, h5⟩ := scp_facts h
  refine ⟨fun p hp => okS_3 (h3 p hp), by omega, fun x hx => ?_, .inr (.inr (.inr ⟨rfl, h1, h2⟩))⟩
  obtain ⟨g1, g2, g3⟩ := h5 x hx
  exact ⟨g1, by omega, fun p hp => okS_3 (g3 p hp)⟩
section
variable {l h : List (Int × Int)} {p : Int × Int}
theorem sim_nx (hs : simB l = true) {k : Nat} (hk : k < l.length) : at' l k ≠ nxp l k := by
  unfold simB at hs
  simp only [Bool.and_eq_true, decide_eq_true_eq, Bool.not_eq_true'] at hs
  have h4 := anyN_pre hs.2.2.2 hk
  unfold sbd sbd1 at h4
  simp only [Bool.or_eq_false_iff, decide_eq_false_iff_not] at h4
  exact h4.1.1
theorem has_t (h3 : 3 ≤ l.length) : ringHas l p true = true ↔ aon l p l.length = true ∨ xrs l p l.length = true := by
  rw [ringHas_al true h3]
  cases aon l p l.length <;> cases xrs l p l.length <;> simp
theorem has_f (h3 : 3 ≤ l.length) : ringHas l p false = true ↔ aon l p l.length = false ∧ xrs l p l.length = true := by
  rw [ringHas_al false h3]
  cases aon l p l.length <;> cases xrs l p l.length <;> simp
theorem rsd_e (h3 : 3 ≤ l.length) : rsd l p = if aon l p l.length = true then 0 else if xrs l p l.length = true then 1 else -1 := by
  obtain ⟨e1, e2⟩ := ring_all (p := p) h3
  unfold rsd
  rw [e1, e2]
theorem rsd_f (h3 : 3 ≤ l.length) : 0 < rsd l p ↔ ringHas l p false = true := by
  rw [has_f h3, rsd_e h3]
  cases aon l p l.length <;> cases xrs l p l.length <;> simp
theorem rsd_1 (h3 : 3 ≤ l.length) : rsd l p = 1 ↔ ringHas l p false = true := by
  rw [has_f h3, rsd_e h3]
  cases aon l p l.length <;> cases xrs l p l.length <;> simp
theorem orN_an (f : Nat → Bool) : ∀ n, orN f n = anyN f n := by
  intro n
  induction n with
  | zero => rfl
  | succ n ih => rw [orN, anyN, ih]
/-- no edge of one ring meets one of the other -/
def Apt (l h : List (Int × Int)) : Prop := ∀ i k, i < l.length → k < h.length → gmt (at' l i) (nxp l i) (at' h k) (nxp h k) = false
theorem Apt.symm (a : Apt l h) : Apt h l := fun i k hi hk => by rw [gmt_sym]; exact a k i hk hi
theorem srg_apt (hs : srg l h = false) : Apt l h := by
  intro i k hi hk
  cases e : gmt (at' l i) (nxp l i) (at' h k) (nxp h k) with
  | false => rfl
  | true =>
    rw [gmt_sym] at e
    unfold srg at hs
    have h1 := anyN_pre hs hi
    have h2 := anyN_pre h1 hk
    rw [e] at h2
    cases h2
theorem aon_no {n : Nat} (h1 : ∀ k, k < n → gon (at' l k) (nxp l k) p = false) : aon l p n = false := aon_none n fun k hk => by
  show rcOn _ _ _ _ _ _ = false
  rw [← gon_rc]; exact h1 k hk
theorem aon_edge {k n : Nat} (hk : k < n) (hg : gon (at' l k) (nxp l k) p = true) : aon l p n = true := by
  refine aon_mono (k := k + 1) ?_ n (by omega)
  rw [aon]
  have : ron l p k = true := by
    show rcOn _ _ _ _ _ _ = true
    rw [← gon_rc]; exact hg
  rw [this, Bool.or_true]
theorem Apt.off (a : Apt l h) {k : Nat} (hk : k < l.length) : aon h (at' l k) h.length = false := aon_no fun j hj => by
  cases e : gon (at' h j) (nxp h j) (at' l k) with
  | false => rfl
  | true =>
    have := a k j hk hj
    rw [gmt_3 e] at this
    cases this
/-- all corners of a ring are on the same side of another one -/
theorem Apt.side (a : Apt l h) (h0 : 0 < h.length) : ∀ k, k < l.length → xrs h (at' l k) h.length = xrs h (at' l 0) h.length := by
  intro k
  induction k with
  | zero => intro _; rfl
  | succ k ih =>
    intro hk
    rw [← ih (by omega)]
    refine (ring_keep h0 fun j hj => ?_).symm
    have := a k j (by omega) hj
    rw [nxp_mid hk] at this
    exact this
theorem at_of_mem {p : Int × Int} (hp : p ∈ l) : ∃ k, k < l.length ∧ at' l k = p := by
  obtain ⟨k, hk, e⟩ := List.mem_iff_getElem.1 hp
  refine ⟨k, hk, ?_⟩
  unfold at'
  rw [List.getD_eq_getElem?_getD, List.getElem?_eq_getElem hk, e]; rfl
theorem mem_at {k : Nat} (hk : k < l.length) : at' l k ∈ l := List.mem_of_getElem? (at_get hk)
theorem mem_nx {k : Nat} (hk : k < l.length) : nxp l k ∈ l := by
  rcases Nat.lt_or_ge (k + 1) l.length with e | e
  · rw [nxp_mid e]; exact mem_at e
  · rw [nxp_end (by omega)]; exact mem_at (by omega)
theorem xrs_top (ht : ∀ q ∈ h, q.2 ≤ p.2) : xrs h p h.length = false := xrs_none _ fun k hk => by
  show rcIn _ _ _ _ _ _ = false
  rw [← glf_rc]
  have h1 := ht _ (mem_at hk)
  have h2 := ht _ (mem_nx hk)
  unfold glf
  split <;> exact decide_eq_false (by omega)
/-- **of two rings apart not each is within the other one** -/
theorem not_both (a : Apt l h) (l0 : 0 < l.length) (h0 : 0 < h.length) (hx : xrs l (at' h 0) l.length = true) : ∀ k, k < l.length → xrs h (at' l k) h.length = false := by
  obtain ⟨b1, -, -, -, p, hp, e1⟩ := box_spec l l0
  obtain ⟨b2, -, -, -, q, hq, e2⟩ := box_spec h h0
  obtain ⟨i, hi, rfl⟩ := at_of_mem hp
  obtain ⟨j, hj, rfl⟩ := at_of_mem hq
  rcases Int.le_total (box h).2.2.2 (box l).2.2.2 with g | g
  · have := xrs_top (h := h) (p := at' l i) fun q hq => by have := b2 q hq; omega
    intro k hk
    rw [a.side h0 k hk, ← a.side h0 i hi, this]
  · have := xrs_top (h := l) (p := at' h j) fun q hq => by have := b1 q hq; omega
    rw [a.symm.side l0 j hj, hx] at this
    cases this
/-- a point on an edge of a ring is on the side of another one on which the ring is -/
theorem Apt.edge (a : Apt l h) (h0 : 0 < h.length) {k : Nat} (hk : k < l.length) (hg : gon (at' l k) (nxp l k) p = true) : xrs h p h.length = xrs h (at' l k) h.length ∧ aon h p h.length = false := by
  refine ⟨(ring_keep h0 fun j hj => ?_).symm, aon_no fun j hj => ?_⟩
  · cases e : gmt (at' l k) p (at' h j) (nxp h j) with
    | false => rfl
    | true =>
      have := a k j hk hj
      rw [gmt_sub hg e] at this
      cases this
  · cases e : gon (at' h j) (nxp h j) p with
    | false => rfl
    | true =>
      have := a k j hk hj
      rw [gmt_point hg e] at this
      cases this
end
section
variable {l : List (Int × Int)} {H : List (List (Int × Int))} {p : Int × Int}
/-- what a scene's polygon is -/
structure ScP (l : List (Int × Int)) (H : List (List (Int × Int))) : Prop where
  sim : simB l = true
  hsim : ∀ i, i < H.length → simB (H.getD i []) = true
  out : ∀ i, i < H.length → Apt l (H.getD i [])
  inn : ∀ i, i < H.length → ringHas l (at' (H.getD i []) 0) false = true
  apt : ∀ i j, i < H.length → j < H.length → i ≠ j → Apt (H.getD i []) (H.getD j [])
  off : ∀ i j, i < H.length → j < H.length → i ≠ j → ringHas (H.getD i []) (at' (H.getD j []) 0) false = false
theorem scP_of (hs : scpB l H = true) : ScP l H := by
  unfold scpB at hs
  simp only [Bool.and_eq_true, decide_eq_true_eq, Bool.not_eq_true'] at hs
  obtain ⟨h1, h2, h3⟩ := hs
  have hbad : ∀ i, i < H.length → simB (H.getD i []) = true ∧ srg l (H.getD i []) = false ∧ rsd l (at' (H.getD i []) 0) = 1 ∧ ∀ j, j < i → scIn H i j = false := by
    intro i hi
    have h4 := anyN_pre h3 hi
    unfold scBad at h4
    simp only [Bool.or_eq_false_iff, decide_eq_false_iff_not, Bool.not_eq_false', decide_eq_true_eq] at h4
    exact ⟨h4.2.1, h4.2.2.1, h4.2.2.2.1, fun j hj => anyN_pre h4.2.2.2.2 hj⟩
  have hpair : ∀ i j, i < H.length → j < i → Apt (H.getD j []) (H.getD i []) ∧ ringHas (H.getD j []) (at' (H.getD i []) 0) false = false ∧ ringHas (H.getD i []) (at' (H.getD j []) 0) false = false := by
    intro i j hi hj
    have h5 := (hbad i hi).2.2.2 j hj
    unfold scIn at h5
    simp only [Bool.or_eq_false_iff, decide_eq_false_iff_not] at h5
    refine ⟨srg_apt h5.1, ?_, ?_⟩
    · rw [← Bool.not_eq_true, ← rsd_f (sim_bs (hbad j (by omega)).1).1]; exact h5.2.1
    · rw [← Bool.not_eq_true, ← rsd_f (sim_bs (hbad i hi).1).1]; exact h5.2.2
  refine ⟨h1, fun i hi => (hbad i hi).1, fun i hi => srg_apt (hbad i hi).2.1, fun i hi => (rsd_1 (sim_bs h1).1).1 (hbad i hi).2.2.1, fun i j hi hj hne => ?_, fun i j hi hj hne => ?_⟩
  · rcases Nat.lt_or_ge i j with g | g
    · exact (hpair j i hj g).1
    · exact (hpair i j hi (by omega)).1.symm
  · rcases Nat.lt_or_ge i j with g | g
    · exact (hpair j i hj g).2.1
    · exact (hpair i j hi (by omega)).2.2
theorem ScP.h3 (S : ScP l H) : 3 ≤ l.length := (sim_bs S.sim).1
theorem ScP.g3 (S : ScP l H) {i : Nat} (hi : i < H.length) : 3 ≤ (H.getD i []).length := (sim_bs (S.hsim i hi)).1
/-- the ring is outside each hole -/
theorem ScP.rOut (S : ScP l H) {i : Nat} (hi : i < H.length) {k : Nat} (hk : k < l.length) : xrs (H.getD i []) (at' l k) (H.getD i []).length = false := by
  have h3 := S.h3
  have g3 := S.g3 hi
  exact not_both (S.out i hi) (by omega) (by omega) ((has_f h3).1 (S.inn i hi)).2 k hk
/-- a hole's corners are within the ring -/
theorem ScP.hIn (S : ScP l H) {i : Nat} (hi : i < H.length) {k : Nat} (hk : k < (H.getD i []).length) : xrs l (at' (H.getD i []) k) l.length = true := by
  have h3 := S.h3
  rw [(S.out i hi).symm.side (by omega) k hk]
  exact ((has_f h3).1 (S.inn i hi)).2
/-- a hole's corners are outside the other holes -/
theorem ScP.hOut (S : ScP l H) {i j : Nat} (hi : i < H.length) (hj : j < H.length) (hne : i ≠ j) {k : Nat} (hk : k < (H.getD j []).length) : xrs (H.getD i []) (at' (H.getD j []) k) (H.getD i []).length = false := by
  have g3 := S.g3 hi
  have g4 := S.g3 hj
  rw [(S.apt i j hi hj hne).symm.side (by omega) k hk]
  cases e : xrs (H.getD i []) (at' (H.getD j []) 0) (H.getD i []).length with
  | false => rfl
  | true =>
    have := S.off i j hi hj hne
    rw [(has_f g3).2 ⟨(S.apt i j hi hj hne).symm.off (by omega), e⟩] at this
    cases this
/-- **a point on the ring is in the polygon** -/
theorem ScP.onRing (S : ScP l H) {k : Nat} (hk : k < l.length) (hg : gon (at' l k) (nxp l k) p = true) : polHas l H p = true := by
  unfold polHas
  rw [orN_an, (has_t S.h3).2 (.inl (aon_edge hk hg)), anyN_none]
  · rfl
  · intro i hi
    have g3 := S.g3 hi
    obtain ⟨e1, e2⟩ := (S.out i hi).edge (by omega) hk hg
    rw [← Bool.not_eq_true, has_f g3, e1, S.rOut hi hk]
    simp
/-- **a point on a hole's ring is in the polygon** -/
theorem ScP.onHole (S : ScP l H) {j : Nat} (hj : j < H.length) {k : Nat} (hk : k < (H.getD j []).length) (hg : gon (at' (H.getD j []) k) (nxp (H.getD j []) k) p = true) : polHas l H p = true := by
  unfold polHas
  have h3 := S.h3
  rw [orN_an, (has_t h3).2 (.inr (by rw [((S.out j hj).symm.edge (by omega) hk hg).1]; exact S.hIn hj hk)), anyN_none]
  · rfl
  · intro i hi
    have g3 := S.g3 hi
    rw [← Bool.not_eq_true, has_f g3]
    by_cases e : i = j
    · subst e
      rw [aon_edge hk hg]; simp
    · rw [((S.apt i j hi hj e).symm.edge (by omega) hk hg).1, S.hOut hi hj e hk]
      simp
end
end Go.Proofs.YtcoeiimohkofjaaGreat
set_option linter.unusedSimpArgs false
set_option linter.unusedVariables false
/-! spec.sceneDivisor, SceneSteps (printed by gen/ze.py). -/
namespace Go.Proofs.YtcoeiimohkofjaaGreat
open Go Go.RowKit PF JR
set_option maxRecDepth 100000 in
set_option maxHeartbeats 4000000 in
theorem dvs_c (x y : Nat) (hx : x ≤ 100000) (hy : y ≤ 100000) (w : World) :
    Calls Tryz.prog 53 #[.int .i64 x, .int .i64 y] w fun e w' => e = .returned (.int .i64 (Nat.gcd x y : Nat)) ∧ Below w.heap.size w w' := by
  go_enter Tryz.func53, Tryz.ntmps53
  go_wp2
  go_loopw [0, 1] (fun q r wr => ∃ a b : Nat, q = .int .i64 a ∧ r = .int .i64 b ∧ a ≤ 100000 ∧ b ≤ 100000 ∧ Nat.gcd a b = Nat.gcd x y ∧ Below w.heap.size w wr) (fun _ r _ => (intOf r).toNat)
  case atStart => exact ⟨x, y, rfl, rfl, hx, hy, rfl, Below.refl _ _⟩
  case round =>
    obtain ⟨a, b, rfl, rfl, ha, hb, hg, hB⟩ := hrel
    by_cases h0 : b = 0
    · have hg' : a = Nat.gcd x y := by rw [← hg, h0, Nat.gcd_zero_right]
      have h0' : (b : Int) = 0 := by omega
      have hd : ((b : Int) != 0) = false := by rw [h0']; rfl
      clear hg hb
      generalize (b : Int) = b' at *
      go_wp2
      go_ret
      refine ⟨?_, hB⟩
      rw [← hg']
      rfl
    · have h0' : ¬ (b : Int) = 0 := by omega
      have hrem : Int.tmod (a : Int) (b : Int) = ((a % b : Nat) : Int) := by
        rw [Int.tmod_eq_emod_of_nonneg (by omega)]; rfl
      have hlt : a % b < b := Nat.mod_lt _ (by omega)
      have hd : ((b : Int) != 0) = true := by simp; omega
      go_wp2
      go_quiet (fail)
      rw [show (a : Int) % (b : Int) = ((a % b : Nat) : Int) from rfl]
      go_wp2
      go_roundw
      case rel => exact ⟨b, a % b, rfl, rfl, hb, by omega, by rw [← hg, Nat.gcd_comm a b, Nat.gcd_rec b a, Nat.gcd_comm], below_drewN hB _⟩
      case measure => simp [intOf]; omega
/-- the n + 1 whole points from a on, each (d1, d2) further -/
def stf (a : Int × Int) (d1 d2 : Int) (k : Nat) : Int × Int := (a.1 + d1 * k, a.2 + d2 * k)
def stps (a : Int × Int) (d1 d2 : Int) (n : Nat) : List (Int × Int) := (List.range (n + 1)).map (stf a d1 d2)
theorem stps_at (a : Int × Int) (d1 d2 : Int) (n : Nat) {k : Nat} (h : k < n + 1) : (stps a d1 d2 n)[k]? = some (stf a d1 d2 k) := by
  unfold stps; rw [List.getElem?_map, List.getElem?_range h]; rfl
theorem step_bd {d n : Int} {k : Nat} (hk : (k : Int) ≤ n) (h : -4000 ≤ d * n ∧ d * n ≤ 4000) : -4000 ≤ d * k ∧ d * k ≤ 4000 := by
  rcases Int.le_total 0 d with g | g
  · have h1 := Int.mul_nonneg g (show (0 : Int) ≤ k by omega)
    have h2 := Int.mul_le_mul_of_nonneg_left hk g
    omega
  · have h1 := Int.mul_nonneg (show (0 : Int) ≤ -d by omega) (show (0 : Int) ≤ k by omega)
    have h2 := Int.mul_le_mul_of_nonneg_left hk (show (0 : Int) ≤ -d by omega)
    rw [Int.neg_mul] at h1
    rw [Int.neg_mul, Int.neg_mul] at h2
    omega
theorem infoGp1 : (Tryz.prog.info? 27).map (fun i => (i.zero, i.size, i.bytes)) = some (some (.agg #[.int .i64 0, .int .i64 0]), 2, 16) := by kernel_rfl
set_option maxRecDepth 100000 in
set_option maxHeartbeats 8000000 in
theorem stp_c (a b : Int × Int) (n : Nat) (d1 d2 : Int) (ha : Bs a) (hb : Bs b) (hn : Nat.gcd (b.1 - a.1).natAbs (b.2 - a.2).natAbs = n) (hn0 : 0 < n) (e1 : b.1 - a.1 = d1 * n) (e2 : b.2 - a.2 = d2 * n) (w : World) :
    Calls Tryz.prog 28 #[.agg #[.int .i64 a.1, .int .i64 a.2], .agg #[.int .i64 b.1, .int .i64 b.2]] w fun e w' => ∃ v', e = .returned v' ∧ SlR w.heap.size w'.heap.size w' v' (stps a d1 d2 n) ∧ Below w.heap.size w w' := by
  have hn4 : n ≤ 4000 := by
    rcases Nat.eq_zero_or_pos (b.1 - a.1).natAbs with h | h
    · rw [h, Nat.gcd_zero_left] at hn
      unfold Bs at ha hb; omega
    · have := Nat.gcd_le_left (b.2 - a.2).natAbs h
      unfold Bs at ha hb; omega
  have hdv0 := fun u => dvs_c (b.1 - a.1).natAbs (b.2 - a.2).natAbs (by unfold Bs at ha hb; omega) (by unfold Bs at ha hb; omega) u
  rw [hn] at hdv0
  have hdv : ∀ (x y : Int) u, x = ((b.1 - a.1).natAbs : Int) → y = ((b.2 - a.2).natAbs : Int) → Calls Tryz.prog 53 #[.int .i64 x, .int .i64 y] u fun e w' => e = .returned (.int .i64 (n : Nat)) ∧ Below u.heap.size u w' := fun x y u h1 h2 => by rw [h1, h2]; exact hdv0 u
  have q1 : Int.tdiv (b.1 - a.1) n = d1 := by rw [e1]; exact Int.mul_tdiv_cancel _ (by omega)
  have q2 : Int.tdiv (b.2 - a.2) n = d2 := by rw [e2]; exact Int.mul_tdiv_cancel _ (by omega)
  obtain ⟨i0, hi, hz0, hz1, hz2⟩ := info_parts infoGp1
  obtain ⟨a1, a2⟩ := a
  obtain ⟨b1, b2⟩ := b
  unfold Bs at ha hb
  simp only at ha hb e1 e2 hdv q1 q2
  have bd1 := fun (k : Nat) (hk : (k : Int) ≤ n) => step_bd (d := d1) hk (by rw [← e1]; omega)
  have bd2 := fun (k : Nat) (hk : (k : Int) ≤ n) => step_bd (d := d2) hk (by rw [← e2]; omega)
  clear hn hdv0 e1 e2
  have st0 := ((Blk.nil w).push rfl #[.int .i64 a1, .int .i64 a2] 27).push (b := w.heap.size + 1) (by simp) #[.int .i64 b1, .int .i64 b2] 27
  have z0 := st0.cell 1 rfl 0
  have z1 := st0.cell 1 rfl 1
  have y0 := st0.cell 0 rfl 0
  have y1 := st0.cell 0 rfl 1
  simp only [List.getElem?_toArray, List.getElem?_cons_zero, List.getElem?_cons_succ] at z0 z1 y0 y1
  have hw1 := wrapS (x := a1 - b1) (by omega)
  have hw2 := wrapS (x := b1 - a1) (by omega)
  have hw3 := wrapS (x := a2 - b2) (by omega)
  have hw4 := wrapS (x := b2 - a2) (by omega)
  go_enter Tryz.func28, Tryz.ntmps28
  go_upto_region 1 with (fail)
  go_cut [5] from 8 to 30 (fun q wy => q = .int .i64 (n : Nat) ∧ Blk w wy [(w.heap.size + 1, #[.int .i64 b1, .int .i64 b2], 27), (w.heap.size, #[.int .i64 a1, .int .i64 a2], 27)])
  case first =>
    go_wp2_with (go_at_call 53; refine JR.StopY.out ?_)
    all_goals
      refine ⟨?_⟩
      refine (hdv _ _ _ (by omega) (by omega)).mono ?_
      rintro e w1 ⟨rfl, hb⟩
      have st1 := st0.ext hb
      clear hb st0 z0 z1 y0 y1 hdv
      go_wp2
      go_meet
      exact ⟨rfl, st1⟩
  case rest =>
  clear st0 z0 z1 y0 y1 hdv
  obtain ⟨rfl, st1⟩ := hcut
  have hn0' : ¬ (n : Int) = 0 := by omega
  have hd0 : ((n : Int) == 0) = false := by simp; omega
  go_wp2
  go_loopw [6, 7] (fun v i wr => ∃ k : Nat, k ≤ n + 1 ∧ i = .int .i64 k ∧ wr.ownsRow (w.heap.size + 2) 27 2 v k (cellsP ((stps (a1, a2) d1 d2 n).take k)) ∧ Blk w wr [(w.heap.size + 1, #[.int .i64 b1, .int .i64 b2], 27), (w.heap.size, #[.int .i64 a1, .int .i64 a2], 27)]) (fun _ i _ => n + 1 - (intOf i).toNat)
  case atStart => exact ⟨0, Nat.zero_le _, rfl, World.ownsRow_nil _ _ _ _, st1⟩
  case round =>
    clear st1
    obtain ⟨k, hkl, rfl, hown, hB⟩ := hrel
    generalize u6 = vs at *
    rcases Nat.lt_or_ge k (n + 1) with hlt | hge
    · have hlt' : (k : Int) ≤ (n : Int) := by omega
      have hlen : (stps (a1, a2) d1 d2 n).length = n + 1 := by unfold stps; simp
      have bk1 := bd1 k hlt'
      have bk2 := bd2 k hlt'
      have be1 : -4000 ≤ d1 ∧ d1 ≤ 4000 := by have := bd1 1 (by omega); simpa using this
      have be2 : -4000 ≤ d2 ∧ d2 ≤ 4000 := by have := bd2 1 (by omega); simpa using this
      have w1 := wrapS (x := d1) (by omega)
      have w2 := wrapS (x := d2) (by omega)
      have w3 := wrapS (x := d1 * k) (by omega)
      have w4 := wrapS (x := d2 * k) (by omega)
      have w5 := wrapS (x := a1 + d1 * k) (by omega)
      have w6 := wrapS (x := a2 + d2 * k) (by omega)
      have hsn := cellsP_snoc (stps (a1, a2) d1 d2 n) k _ (stps_at _ _ _ _ hlt)
      obtain ⟨m1, hm1⟩ : ∃ m, a1 + d1 * (k : Int) = m := ⟨_, rfl⟩
      obtain ⟨m2, hm2⟩ : ∃ m, a2 + d2 * (k : Int) = m := ⟨_, rfl⟩
      simp only [stf, hm1, hm2] at hsn w5 w6
      have z0 := hB.cell 1 rfl 0
      have z1 := hB.cell 1 rfl 1
      have y0 := hB.cell 0 rfl 0
      have y1 := hB.cell 0 rfl 1
      simp only [List.getElem?_toArray, List.getElem?_cons_zero, List.getElem?_cons_succ] at z0 z1 y0 y1
      have hsz := hB.hb.size
      have hsz2 : w.heap.size + 2 ≤ wr.heap.size := by have := hB.lt 0 rfl; omega
      have hfg := fun b (hb : vs.ownBlock = some b) => hown.lt b hb
      have hn0b : w.heap.size ∉ vs.ownBlock.toList := by intro hm; simp at hm; have := (hfg _ hm).1; omega
      have hn1b : w.heap.size + 1 ∉ vs.ownBlock.toList := by intro hm; simp at hm; have := (hfg _ hm).1; omega
      clear bd1 bd2 bk1 bk2 be1 be2 ha hb hlen
      go_upto_region 8 with (fail)
      refine wp_region_K vs.ownBlock.toList [.val (vs), .val (.pointer (some ⟨w.heap.size, 0, none⟩)), .val (.int .i64 a1), .val (.pointer (some ⟨w.heap.size + 1, 0, none⟩)), .val (.int .i64 b1), .val (.pointer (some ⟨w.heap.size, 0, none⟩)), .val (.int .i64 a1), .val (.int .i64 (b1 - a1)), .val (.int .i64 (n : Nat)), .val (.int .i64 d1), .val (.int .i64 (k : Nat)), .val (.int .i64 (d1 * (k : Nat))), .val (.int .i64 m1), .val (.pointer (some ⟨w.heap.size, 1, none⟩)), .val (.int .i64 a2), .val (.pointer (some ⟨w.heap.size + 1, 1, none⟩)), .val (.int .i64 b2), .val (.pointer (some ⟨w.heap.size, 1, none⟩)), .val (.int .i64 a2), .val (.int .i64 (b2 - a2)), .val (.int .i64 (n : Nat)), .val (.int .i64 d2), .val (.int .i64 (k : Nat)), .val (.int .i64 (d2 * (k : Nat))), .val (.int .i64 m2), .val (.agg #[.int .i64 m1, .int .i64 m2]), .slc 27 #[.int .i64 m1, .int .i64 m2], .app vs k (cellsP ((stps (a1, a2) d1 d2 n).take k)) (w.heap.size + 2) 27 2 (k + 1) ((cellsP ((stps (a1, a2) d1 d2 n).take k)) ++ [.int .i64 m1, .int .i64 m2]), .fnS 67 id]
        [[.ini 6], [.ini 2], [.frm 1 41], [.ini 3], [.frm 3 43], [.ini 2], [.frm 5 45], [.frm 4 44, .frm 6 46], [.ini 5], [.frm 7 47, .frm 8 48], [.ini 7], [.frm 9 49, .frm 10 50], [.frm 2 42, .frm 11 51], [.ini 2], [.frm 13 53], [.ini 3], [.frm 15 55], [.ini 2], [.frm 17 57], [.frm 16 56, .frm 18 58], [.ini 5], [.frm 19 59, .frm 20 60], [.ini 7], [.frm 21 61, .frm 22 62], [.frm 14 54, .frm 23 63], [.frm 12 52, .frm 24 64], [.frm 25 65], [.frm 0 40, .frm 26 66, .til 27], [.frm 27 67]]
        mixed (by kernel_rfl) (by kernel_rfl) (allPre_of ⟨trivial, trivial, trivial, trivial, trivial, trivial, trivial, trivial, trivial, trivial, trivial, trivial, trivial, trivial, trivial, trivial, trivial, trivial, trivial, trivial, trivial, trivial, trivial, trivial, trivial, trivial, trivial, hown, trivial, trivial⟩)
        ⟨OpOk.quiet rfl ?_, OpOk.quiet rfl ?_, OpOk.quiet rfl ?_, OpOk.quiet rfl ?_, OpOk.quiet rfl ?_, OpOk.quiet rfl ?_, OpOk.quiet rfl ?_, OpOk.quiet rfl ?_, OpOk.quiet rfl ?_, OpOk.quiet rfl ?_, OpOk.quiet rfl ?_, OpOk.quiet rfl ?_, OpOk.quiet rfl ?_, OpOk.quiet rfl ?_, OpOk.quiet rfl ?_, OpOk.quiet rfl ?_, OpOk.quiet rfl ?_, OpOk.quiet rfl ?_, OpOk.quiet rfl ?_, OpOk.quiet rfl ?_, OpOk.quiet rfl ?_, OpOk.quiet rfl ?_, OpOk.quiet rfl ?_, OpOk.quiet rfl ?_, OpOk.quiet rfl ?_, OpOk.quiet rfl ?_, slc_run rfl ?_,
         OpOk.app (inf := i0) rfl rfl Tryz.underlying22 hi hz0 hz1 hz2 rfl (by decide) rfl (by intro u hu; simp at hu; rcases hu with rfl | rfl <;> rfl) (by unfold maxLen; omega) (by omega) hsz2 (fun _ hG => hG.size) (fun b hb => (hfg b hb).2)
           (fun b hb => ⟨row_still rfl, row_still rfl, row_still rfl, row_still rfl, row_still rfl, row_still rfl, row_still rfl, row_still rfl, row_still rfl, row_still rfl, row_still rfl, row_still rfl, row_still rfl, row_still rfl, row_still rfl, row_still rfl, row_still rfl, row_still rfl, row_still rfl, row_still rfl, row_still rfl, row_still rfl, row_still rfl, row_still rfl, row_still rfl, row_still rfl, row_none rfl (fun h => (nomatch h)), row_self rfl, (fun _ _ _ _ _ _ _ _ _ h => h), trivial⟩)
           (fun b hb => oldFree_of ⟨.inr (fun h => (nomatch h)), .inr (fun h => (nomatch h)), .inr (fun h => (nomatch h)), .inr (fun h => (nomatch h)), .inr (fun h => (nomatch h)), .inr (fun h => (nomatch h)), .inr (fun h => (nomatch h)), .inr (fun h => (nomatch h)), .inr (fun h => (nomatch h)), .inr (fun h => (nomatch h)), .inr (fun h => (nomatch h)), .inr (fun h => (nomatch h)), .inr (fun h => (nomatch h)), .inr (fun h => (nomatch h)), .inr (fun h => (nomatch h)), .inr (fun h => (nomatch h)), .inr (fun h => (nomatch h)), .inr (fun h => (nomatch h)), .inr (fun h => (nomatch h)), .inr (fun h => (nomatch h)), .inr (fun h => (nomatch h)), .inr (fun h => (nomatch h)), .inr (fun h => (nomatch h)), .inr (fun h => (nomatch h)), .inr (fun h => (nomatch h)), .inr (fun h => (nomatch h)), .inr (fun h => (nomatch h)), .inl rfl, .inr (fun h => (nomatch h)), trivial⟩)
           ?_ (fun _ b _ hb h => Keep.setRow h (.inr (by simp [hb]))), OpOk.fnS rfl ?_, trivial⟩ ?_
      · intro a u _ hf
        simp [facts, Need.fact, Ent.val, Act.eval] at hf
        go_simp
      · intro a u _ hf
        simp [facts, Need.fact, Ent.val, Act.eval] at hf
        go_simp
      · intro a u hG hf
        simp [facts, Need.fact, Ent.val, Act.eval] at hf
        have zz := (hG.cell (World.block_lt_of_cell? _ _ z0) hn0b).trans z0
        go_simp
      · intro a u _ hf
        simp [facts, Need.fact, Ent.val, Act.eval] at hf
        go_simp
      · intro a u hG hf
        simp [facts, Need.fact, Ent.val, Act.eval] at hf
        have zz := (hG.cell (World.block_lt_of_cell? _ _ y0) hn1b).trans y0
        go_simp
      · intro a u _ hf
        simp [facts, Need.fact, Ent.val, Act.eval] at hf
        go_simp
      · intro a u hG hf
        simp [facts, Need.fact, Ent.val, Act.eval] at hf
        have zz := (hG.cell (World.block_lt_of_cell? _ _ z0) hn0b).trans z0
        go_simp
      · intro a u _ hf
        simp [facts, Need.fact, Ent.val, Act.eval] at hf
        go_simp
      · intro a u _ hf
        simp [facts, Need.fact, Ent.val, Act.eval] at hf
        go_simp
      · intro a u _ hf
        simp [facts, Need.fact, Ent.val, Act.eval] at hf
        go_simp
        omega
      · intro a u _ hf
        simp [facts, Need.fact, Ent.val, Act.eval] at hf
        go_simp
      · intro a u _ hf
        simp [facts, Need.fact, Ent.val, Act.eval] at hf
        go_simp
      · intro a u _ hf
        simp [facts, Need.fact, Ent.val, Act.eval] at hf
        go_simp
      · intro a u _ hf
        simp [facts, Need.fact, Ent.val, Act.eval] at hf
        go_simp
      · intro a u hG hf
        simp [facts, Need.fact, Ent.val, Act.eval] at hf
        have zz := (hG.cell (World.block_lt_of_cell? _ _ z1) hn0b).trans z1
        go_simp
      · intro a u _ hf
        simp [facts, Need.fact, Ent.val, Act.eval] at hf
        go_simp
      · intro a u hG hf
        simp [facts, Need.fact, Ent.val, Act.eval] at hf
        have zz := (hG.cell (World.block_lt_of_cell? _ _ y1) hn1b).trans y1
        go_simp
      · intro a u _ hf
        simp [facts, Need.fact, Ent.val, Act.eval] at hf
        go_simp
      · intro a u hG hf
        simp [facts, Need.fact, Ent.val, Act.eval] at hf
        have zz := (hG.cell (World.block_lt_of_cell? _ _ z1) hn0b).trans z1
        go_simp
      · intro a u _ hf
        simp [facts, Need.fact, Ent.val, Act.eval] at hf
        go_simp
      · intro a u _ hf
        simp [facts, Need.fact, Ent.val, Act.eval] at hf
        go_simp
      · intro a u _ hf
        simp [facts, Need.fact, Ent.val, Act.eval] at hf
        go_simp
        omega
      · intro a u _ hf
        simp [facts, Need.fact, Ent.val, Act.eval] at hf
        go_simp
      · intro a u _ hf
        simp [facts, Need.fact, Ent.val, Act.eval] at hf
        go_simp
      · intro a u _ hf
        simp [facts, Need.fact, Ent.val, Act.eval] at hf
        go_simp
      · intro a u _ hf
        simp [facts, Need.fact, Ent.val, Act.eval] at hf
        go_simp
      · intro a u _ hf
        simp [facts, Need.fact, Ent.val, Act.eval] at hf
        go_simp
      · intro a u _ hf
        obtain ⟨⟨_, _, f1⟩, ⟨_, _, b, f2, _, _, f3⟩, f4, -⟩ := hf
        exact ⟨f1, f4, ⟨b, 0, none⟩, 1, f2, row_cells f3⟩
      · intro a u _ _
        go_simp
      intro uu lw hw wc hKp hE hI hD
      obtain ⟨v0, v1, v2, v3, v4, v5, v6, v7, v8, v9, v10, v11, v12, v13, v14, v15, v16, v17, v18, v19, v20, v21, v22, v23, v24, v25, ⟨bq, v26, -, -, -⟩, ⟨o7, -⟩, v28, -⟩ := hE
      replace v0 : uu 0 = vs := v0
      replace v1 : uu 1 = .pointer (some ⟨w.heap.size, 0, none⟩) := v1
      replace v2 : uu 2 = .int .i64 a1 := v2
      replace v3 : uu 3 = .pointer (some ⟨w.heap.size + 1, 0, none⟩) := v3
      replace v4 : uu 4 = .int .i64 b1 := v4
      replace v5 : uu 5 = .pointer (some ⟨w.heap.size, 0, none⟩) := v5
      replace v6 : uu 6 = .int .i64 a1 := v6
      replace v7 : uu 7 = .int .i64 (b1 - a1) := v7
      replace v8 : uu 8 = .int .i64 (n : Nat) := v8
      replace v9 : uu 9 = .int .i64 d1 := v9
      replace v10 : uu 10 = .int .i64 (k : Nat) := v10
      replace v11 : uu 11 = .int .i64 (d1 * (k : Nat)) := v11
      replace v12 : uu 12 = .int .i64 m1 := v12
      replace v13 : uu 13 = .pointer (some ⟨w.heap.size, 1, none⟩) := v13
      replace v14 : uu 14 = .int .i64 a2 := v14
      replace v15 : uu 15 = .pointer (some ⟨w.heap.size + 1, 1, none⟩) := v15
      replace v16 : uu 16 = .int .i64 b2 := v16
      replace v17 : uu 17 = .pointer (some ⟨w.heap.size, 1, none⟩) := v17
      replace v18 : uu 18 = .int .i64 a2 := v18
      replace v19 : uu 19 = .int .i64 (b2 - a2) := v19
      replace v20 : uu 20 = .int .i64 (n : Nat) := v20
      replace v21 : uu 21 = .int .i64 d2 := v21
      replace v22 : uu 22 = .int .i64 (k : Nat) := v22
      replace v23 : uu 23 = .int .i64 (d2 * (k : Nat)) := v23
      replace v24 : uu 24 = .int .i64 m2 := v24
      replace v25 : uu 25 = .agg #[.int .i64 m1, .int .i64 m2] := v25
      replace v28 : uu 28 = uu 27 := by simpa [Ent.fnS, allPut, Act.put, Act.eval, Array.setIfInBounds] using v28
      simp only [allPut, Act.put, v0, v1, v2, v3, v4, v5, v6, v7, v8, v9, v10, v11, v12, v13, v14, v15, v16, v17, v18, v19, v20, v21, v22, v23, v24, v25, v26, v28]
      try simp only [List.setIfInBounds_toArray, List.set_cons_zero, List.set_cons_succ]
      generalize uu 27 = vq at *
      clear v0 v1 v2 v3 v4 v5 v6 v7 v8 v9 v10 v11 v12 v13 v14 v15 v16 v17 v18 v19 v20 v21 v22 v23 v24 v25 v26 v28 hI hD
      rw [← hsn] at o7
      have hB2 := hB.keep hKp (fun i z hz => by
        rcases i with _ | _ | i <;> simp at hz <;> subst hz <;> assumption) (fun z hz => by simp at hz; have := (hfg _ hz).1; omega)
      clear hKp hown hB hfg hn0b hn1b z0 z1 y0 y1 hsn w1 w2 w3 w4 w5 w6
      go_wp2
      go_roundw
      case rel => exact ⟨k + 1, by omega, by go_num, o7, hB2⟩
      case measure => simp [intOf]; omega
    · obtain rfl : k = n + 1 := by omega
      have hge' : ¬ ((n + 1 : Nat) : Int) ≤ (n : Int) := by omega
      have hlen : (stps (a1, a2) d1 d2 n).length = n + 1 := by unfold stps; simp
      have hown2 : wr.ownsRow (w.heap.size + 2) 27 2 vs (stps (a1, a2) d1 d2 n).length (cellsP (stps (a1, a2) d1 d2 n)) := by
        rw [← hlen, List.take_length] at hown; exact hown
      clear bd1 bd2
      generalize ((n + 1 : Nat) : Int) = kk at *
      go_wp2
      go_ret
      exact ⟨_, rfl, SlR.own hown2 (by omega), hB.hb⟩
end Go.Proofs.YtcoeiimohkofjaaGreat
set_option linter.unusedSimpArgs false
set_option linter.unusedVariables false
/-! FnSceneEdges: the walk (printed by gen/zf.py). -/
namespace Go.Proofs.YtcoeiimohkofjaaGreat
open Go Go.RowKit PF JR
theorem infoSlG : (Tryz.prog.info? 22).map (fun i => (i.zero, i.size, i.bytes)) = some (some (.slice none 0 0), 1, 24) := by kernel_rfl
section
variable {P : Program}
/-- nothing is appended -/
theorem wpList_append_none (w : World) {ops : Array Oper} {rest : List Oper} {o : Oper} {a : Act} {Q : Exit → Act → World → Prop} (hgd : o.guard = none) (s x : Operand) (t : TypeId)
    (ho : o.op = .call { callee := .builtin .append, args := #[s, x], argTypes := #[t, t] }) (e : TypeId) (i : TypeInfo) (ht : P.underlying t = some (.slice e)) (hi : P.info? e = some i)
    (base : Option Addr) (m c : Nat) (hle : m ≤ c) (hs : a.eval s = .slice base m c) (A : Option Addr) (c2 : Nat) (hx : a.eval x = .slice A 0 c2)
    (h : wpList P ops Q rest (a.put o.dst (.slice base m c)) w) : wpList P ops Q (o :: rest) a w := by
  refine wpList_plain hgd fun K hK' => ?_
  have hsrc : Src P i.size t (.slice A 0 c2) 0 [] w := by
    cases A with
    | none => exact Src.ofNil w ht c2
    | some ad => exact Src.ofSlice w ht ad 0 c2 [] (by simp) (by simp) (by simp)
  have hrun := run_append_nothing (P := P) w t t o.type e i ht hi base m c hle _ hsrc
  unfold Oper.wp
  simp [execOp, ho, resolve, invoke, builtin, hs, hx, hrun, Result.andThen]
  exact hK' _ _ h
end
theorem addP (b o k : Nat) : (⟨b, o, none⟩ : Addr).add k = ⟨b, o + k, none⟩ := by
  unfold Addr.add
  split
  · rename_i h; subst h; rfl
  · rfl
theorem stf_on {a b : Int × Int} {d1 d2 : Int} {n k : Nat} (e1 : b.1 - a.1 = d1 * n) (e2 : b.2 - a.2 = d2 * n) (hk : k ≤ n) : gon a b (stf a d1 d2 k) = true := by
  have hb : ∀ d : Int, (0 ≤ d * k ∧ d * k ≤ d * n) ∨ (d * n ≤ d * k ∧ d * k ≤ 0) := by
    intro d
    have hk' : (k : Int) ≤ n := by omega
    rcases Int.le_total 0 d with g | g
    · exact .inl ⟨Int.mul_nonneg g (by omega), Int.mul_le_mul_of_nonneg_left hk' g⟩
    · have h1 := Int.mul_nonneg (show (0 : Int) ≤ -d by omega) (show (0 : Int) ≤ k by omega)
      have h2 := Int.mul_le_mul_of_nonneg_left hk' (show (0 : Int) ≤ -d by omega)
      rw [Int.neg_mul] at h1
      rw [Int.neg_mul, Int.neg_mul] at h2
      exact .inr ⟨by omega, by omega⟩
  have h1 := hb d1
  have h2 := hb d2
  refine gon_iff.2 ⟨?_, ?_⟩
  · unfold stf; simp only; omega
  · unfold gsd stf
    simp only
    rw [e1, e2]
    grind
/-- what is known of each edge of a polygon -/
theorem edge_all {l : List (Int × Int)} {H : List (List (Int × Int))} (hs : scpB l H = true) (i j : Nat) (hi : i < H.length + 1) (hj : j < ((l :: H).getD i []).length) :
    ∃ (n : Nat) (d1 d2 : Int), Nat.gcd ((nxp ((l :: H).getD i []) j).1 - (at' ((l :: H).getD i []) j).1).natAbs ((nxp ((l :: H).getD i []) j).2 - (at' ((l :: H).getD i []) j).2).natAbs = n ∧ 0 < n ∧
      (nxp ((l :: H).getD i []) j).1 - (at' ((l :: H).getD i []) j).1 = d1 * n ∧ (nxp ((l :: H).getD i []) j).2 - (at' ((l :: H).getD i []) j).2 = d2 * n ∧
      ∀ k, k ≤ n → polHas l H (stf (at' ((l :: H).getD i []) j) d1 d2 k) = true ∧ Bn3 (stf (at' ((l :: H).getD i []) j) d1 d2 k) := by
  have S := scP_of hs
  obtain ⟨⟨g3, g12, gok⟩, hH2, hHs⟩ := scp_facts hs
  obtain ⟨m, hm⟩ : ∃ m, (l :: H).getD i [] = m := ⟨_, rfl⟩
  rw [hm] at hj ⊢
  have hsm : simB m = true ∧ (∀ p, gon (at' m j) (nxp m j) p = true → polHas l H p = true) := by
    rcases i with _ | i
    · obtain rfl : l = m := hm
      exact ⟨S.sim, fun p hp => S.onRing hj hp⟩
    · have hm : H.getD i [] = m := hm
      have hi : i < H.length := by omega
      refine ⟨by rw [← hm]; exact S.hsim i hi, fun p hp => ?_⟩
      rw [← hm] at hj hp
      exact S.onHole hi hj hp
  have hne := sim_nx hsm.1 hj
  have hok := (sim_bs hsm.1).2.2
  have oa := of_decide_eq_true (hok _ (mem_at hj))
  have ob := of_decide_eq_true (hok _ (mem_nx hj))
  have hg0 : 0 < Nat.gcd ((nxp m j).1 - (at' m j).1).natAbs ((nxp m j).2 - (at' m j).2).natAbs := by
    rcases Nat.eq_zero_or_pos (Nat.gcd ((nxp m j).1 - (at' m j).1).natAbs ((nxp m j).2 - (at' m j).2).natAbs) with h | h
    · exfalso
      have h1 := Nat.eq_zero_of_gcd_eq_zero_left h
      have h2 := Nat.eq_zero_of_gcd_eq_zero_right h
      exact hne (Prod.ext (by omega) (by omega))
    · exact h
  obtain ⟨n, hn⟩ : ∃ n, Nat.gcd ((nxp m j).1 - (at' m j).1).natAbs ((nxp m j).2 - (at' m j).2).natAbs = n := ⟨_, rfl⟩
  have q1 : ((n : Nat) : Int) ∣ (nxp m j).1 - (at' m j).1 := Int.ofNat_dvd_left.2 (hn ▸ Nat.gcd_dvd_left _ _)
  have q2 : ((n : Nat) : Int) ∣ (nxp m j).2 - (at' m j).2 := Int.ofNat_dvd_left.2 (hn ▸ Nat.gcd_dvd_right _ _)
  have e1 := (Int.ediv_mul_cancel q1).symm
  have e2 := (Int.ediv_mul_cancel q2).symm
  refine ⟨n, _, _, hn, by omega, e1, e2, fun k hk => ?_⟩
  have hon := stf_on e1 e2 hk
  refine ⟨hsm.2 _ hon, ?_⟩
  have hb := (gon_iff.1 hon).1
  unfold Bn3
  omega
set_option maxRecDepth 100000 in
set_option maxHeartbeats 16000000 in
theorem edg_c (l : List (Int × Int)) (H : List (List (Int × Int))) (hl0 : l.length ≤ 9223372036854775807) (hH0 : H.length ≤ 9223372036854775807) (hHH0 : ∀ h ∈ H, h.length ≤ 9223372036854775807) (vg vh : Value) (w : World) (hvg : SlP w vg l) (hvh : SlH w vh H) (hcap : CapOk vh) :
    Calls Tryz.prog 5 #[.agg #[vg, vh]] w fun e w' => e = .returned (.bool true) ∧ Below w.heap.size w w' := by
  obtain ⟨Ag, cg, rfl, -⟩ := id hvg
  obtain ⟨Ah, ch, rfl, hkH⟩ := id hvh
  have st0 := (Blk.nil w).push rfl #[.slice Ag l.length cg, .slice Ah H.length ch] 25
  have hfit := fun u h1 h2 => fits1_c l H hl0 hH0 hHH0 (.slice Ag l.length cg) (.slice Ah H.length ch) u h1 h2
  have hHg : ∀ k, (H.getD k []).length ≤ 9223372036854775807 := fun k => by
    rcases Nat.lt_or_ge k H.length with g | g
    · rw [List.getD_eq_getElem?_getD, List.getElem?_eq_getElem g]; exact hHH0 _ (List.getElem_mem g)
    · rw [List.getD_eq_getElem?_getD, List.getElem?_eq_none g]; simp
  have hscp := fun u h1 h2 => iscp_c l H hl0 hHg (.slice Ag l.length cg) (.slice Ah H.length ch) u h1 h2 hcap
  generalize hft : (decide (l.length ≤ 2147483647) && (decide (H.length ≤ 2147483647) && H.all fun h => decide (h.length ≤ 2147483647))) = ft at *
  generalize hsc : scpB l H = sc at *
  have hbig := hsc
  generalize hng : l.length = ng at *
  generalize hnh : H.length = nh at *
  go_enter Tryz.func5, Tryz.ntmps5
  have z0 := st0.cell 0 rfl 0
  have z1 := st0.cell 0 rfl 1
  simp only [List.getElem?_toArray, List.getElem?_cons_zero, List.getElem?_cons_succ] at z0 z1
  go_wp2_with (go_at_call 15; refine JR.StopY.out ?_)
  refine ⟨?_⟩
  refine (hfit _ (hvg.below st0.hb) (hvh.below st0.hb)).mono ?_
  rintro e w1 ⟨rfl, hb⟩
  have st1 := st0.ext hb
  clear hb st0 hfit z0 z1
  cases ft with
  | false =>
    go_wp2
    go_ret
    exact ⟨rfl, st1.hb⟩
  | true =>
  have z0 := st1.cell 0 rfl 0
  have z1 := st1.cell 0 rfl 1
  simp only [List.getElem?_toArray, List.getElem?_cons_zero, List.getElem?_cons_succ] at z0 z1
  go_wp2_with (go_at_call 16; refine JR.StopY.out ?_)
  refine ⟨?_⟩
  refine (hscp _ (hvg.below st1.hb) (hvh.below st1.hb)).mono ?_
  rintro e w2 ⟨rfl, hb⟩
  have st2 := st1.ext hb
  clear hb st1 hscp z0 z1
  cases sc with
  | false =>
    go_wp2
    go_ret
    exact ⟨rfl, st2.hb⟩
  | true =>
  obtain ⟨⟨g3, g12, gok⟩, hH2, hHs⟩ := scp_facts hbig
  have ok3 := scp_ok hbig
  have hpo := fun u (h1 : SlP u (.slice Ag ng cg) l) (h2 : SlH u (.slice Ah nh ch) H) => scPo_r l H (by omega) (by omega) (by omega) (fun x hx => by have := hHs x hx; omega) (.slice Ag ng cg) (.slice Ah nh ch) u h1 h2
  have hedge := fun i j hi hj => edge_all hbig i j hi hj
  have hcap' : nh ≤ ch := by have := hcap _ _ _ rfl; exact this
  have hALl : ∀ i, i < nh + 1 → ((l :: H).getD i []).length ≤ 12 ∧ 3 ≤ ((l :: H).getD i []).length ∧ ∀ p ∈ ((l :: H).getD i []), Bs p := by
    intro i hi
    rcases i with _ | i
    · exact ⟨g12, g3, fun p hp => okS_bs (gok p hp)⟩
    · have hi : i < H.length := by omega
      have hx : (l :: H).getD (i + 1) [] = H[i] := by
        show H.getD i [] = _
        rw [List.getD_eq_getElem?_getD, List.getElem?_eq_getElem hi]; rfl
      rw [hx]
      obtain ⟨h1, h2, h3⟩ := hHs _ (List.getElem_mem hi)
      exact ⟨by omega, h1, fun p hp => okS_bs (h3 p hp)⟩
  have z0 := st2.cell 0 rfl 0
  have z1 := st2.cell 0 rfl 1
  simp only [List.getElem?_toArray, List.getElem?_cons_zero, List.getElem?_cons_succ] at z0 z1
  go_wp2_with (go_at_call 19; refine JR.StopY.out ?_)
  refine ⟨?_⟩
  refine (hpo _ (hvg.below st2.hb) (hvh.below st2.hb)).mono ?_
  rintro e w3 ⟨v1, v2, rfl, g1, g2, hb⟩
  have st3 := st2.ext hb
  clear hb st2 z0 z1 hpo
  obtain ⟨A1, k1, e1, -⟩ := id g1.p
  obtain ⟨A2, k2, e2, -⟩ := id g2.h
  rw [hng] at e1
  rw [hnh] at e2
  subst e1 e2
  have st4 := st3.push (b := w3.heap.size) rfl #[.int .i64 3, .slice A1 ng k1, .slice A2 nh k2] 34
  have hal := (Below.refl w3.heap.size w3).alloc (Nat.le_refl _) (.cells #[.int .i64 3, .slice A1 ng k1, .slice A2 nh k2] 34)
  have p1 := g1.p.below hal
  have p2 := g2.h.below hal
  clear st3 hal g1 g2
  go_upto_region 6 with (fail)
  generalize w3.alloc _ = w4 at *
  generalize w3.heap.size = sb at *
  obtain ⟨i0, hi, hz0, hz1, hz2⟩ := info_parts infoSlG
  go_cut [24, 25, 26] from 19 to 26 (fun q r s wy => r = .int .i64 ((nh + 1 : Nat) : Int) ∧ s = .int .i64 0 ∧ ∃ b c, q = .slice (some ⟨b, 0, none⟩) (nh + 1) c ∧ SlH wy q (l :: H) ∧ Below w4.heap.size w4 wy)
  case first =>
    clear hedge hALl ok3 hHs gok
    have z0 := st4.cell 1 rfl 0
    have z1 := st4.cell 1 rfl 1
    simp only [List.getElem?_toArray, List.getElem?_cons_zero, List.getElem?_cons_succ] at z0 z1
    have st4b := st4.push (b := w4.heap.size) rfl #[.slice Ag ng cg] 22
    have x0 := st4b.cell 2 rfl 0
    have x1 := st4b.cell 2 rfl 1
    simp only [List.getElem?_toArray, List.getElem?_cons_zero, List.getElem?_cons_succ] at x0 x1
    have hvg4 := hvg.below st4.hb
    have hvh4 := hvh.below st4.hb
    have hrow : (w4.alloc (.cells #[.slice Ag ng cg] 22)).ownsRow w4.heap.size 22 1 (.slice (some ⟨w4.heap.size, 0, none⟩) 1 1) 1 [.slice Ag ng cg] := ⟨rfl, .inr ⟨w4.heap.size, 1, _, rfl, Nat.le_refl _, heap_alloc_new w4 _, by decide, by decide, rfl, rfl⟩⟩
    have hal := (Below.refl w4.heap.size w4).alloc (Nat.le_refl _) (.cells #[.slice Ag ng cg] 22)
    rcases Nat.eq_zero_or_pos nh with h0 | h0
    · obtain rfl : H = [] := List.length_eq_zero_iff.1 (by omega)
      subst h0
      go_wp2_with (first | (at_builtin; refine wpList_append_none _ rfl _ _ 23 rfl 22 i0 Tryz.underlying23 hi (some ⟨w4.heap.size, 0, none⟩) 1 1 (by decide) rfl Ah ch rfl ?_))
      have hS : SlH (w4.alloc (.cells #[.slice Ag ng cg] 22)) (.slice (some ⟨w4.heap.size, 0, none⟩) 1 1) [l] := SlH.own hrow (fun j x hj hx => by
        rcases j with _ | j
        · cases hx
          exact ⟨_, rfl, hvg4.below hal⟩
        · cases hx)
      clear hrow
      go_wp2
      go_meet
      exact ⟨by simp, rfl, _, 1, rfl, hS, hal⟩
    · obtain ⟨bb, off, -, eA, -, -⟩ := SlH_at hkH (k := 0) (by omega)
      subst eA
      obtain ⟨f, hf⟩ : ∃ f : Nat → Value, ∀ k, k < nh → w4.cell? ⟨bb, off + k, none⟩ = some (f k) ∧ SlP w4 (f k) (H.getD k []) := by
        obtain ⟨A9, c9, h9, hk9⟩ := id hvh4
        have := Classical.axiomOfChoice (r := fun k y => k < nh → w4.cell? ⟨bb, off + k, none⟩ = some y ∧ SlP w4 y (H.getD k [])) fun k => by
          rcases Nat.lt_or_ge k nh with hk | hk
          · obtain ⟨b', off', y, e1, e2, e3⟩ := SlH_at hk9 (k := k) (by omega)
            subst e1
            simp at h9
            obtain ⟨⟨rfl, rfl⟩, -⟩ := h9
            exact ⟨y, fun _ => ⟨e2, e3⟩⟩
          · exact ⟨.bool false, fun h => absurd h (by omega)⟩
        exact this
      go_wp2_with (first | (at_builtin; refine wpList_append_own _ rfl _ _ 23 rfl w4.heap.size 22 i0 (.slice none 0 0) 1 24 Tryz.underlying23 hi hz0 hz1 hz2 rfl (by decide) _ _ _ rfl hrow ⟨bb, off, none⟩ nh ch ((List.range nh).map f) rfl (by simp) ?c1 ?c2 ?c3 ?c4 ?c5 ?_))
      case c1 => 
        intro j u hu
        rcases Nat.lt_or_ge j nh with hj | hj
        · rw [List.getElem?_map, List.getElem?_range hj] at hu
          obtain rfl : f j = u := by simpa using hu
          rw [addP]
          exact (hal.cell (World.block_lt_of_cell? _ _ (hf j hj).1)).trans (hf j hj).1
        · rw [List.getElem?_eq_none (by simp; omega)] at hu; cases hu
      case c2 =>
        intro u hu
        obtain ⟨k, hk, rfl⟩ := List.mem_map.1 hu
        obtain ⟨A', c', e, -⟩ := (hf k (List.mem_range.1 hk)).2
        rw [e]; rfl
      case c3 => unfold maxLen; omega
      case c4 => omega
      case c5 => simp
      intro v' w5 hown' hgrow _
      have hB := row_below hal hgrow (fun g hg => by simp [Value.ownBlock] at hg; omega) (by simp)
      have hS : SlH w5 v' (l :: H) := SlH.own (by rw [List.length_cons, hnh, Nat.add_comm]; exact hown') (fun j x hj hx => by
        rcases j with _ | j
        · cases hx
          exact ⟨_, rfl, hvg4.below hB⟩
        · have hj' : j < nh := by simp at hj; omega
          obtain ⟨e1, e2⟩ := hf j hj'
          have hx' : H[j]? = some x := hx
          rw [List.getD_eq_getElem?_getD, hx'] at e2
          exact ⟨f j, by rw [List.getElem?_cons_succ, List.getElem?_map, List.getElem?_range hj']; rfl, e2.below hB⟩)
      obtain ⟨-, hn | ⟨g9, c9, cur9, hv', -⟩⟩ := id hown'
      · exact absurd hn.2 (by omega)
      subst hv'
      rw [show (1 : Nat) + nh = nh + 1 by omega] at hS hown' ⊢
      clear hown' hgrow hal hrow hf
      go_wp2
      go_meet
      exact ⟨by simp, rfl, g9, c9, rfl, hS, hB⟩
  case rest =>
  obtain ⟨rfl, rfl, bA, cA, rfl, hAL, hBc⟩ := hcut
  have st5 := st4.ext hBc
  have p1 := p1.below hBc
  have p2 := p2.below hBc
  clear st4 hBc i0 hi hz0 hz1 hz2 hkH hvg hvh hHH0 hHg hcap hbig hHs gok hcap'
  obtain ⟨AA, cAA, eA, hkA⟩ := id hAL
  simp only [Value.slice.injEq] at eA
  obtain ⟨rfl, -, -⟩ := eA
  have hatA := fun (k : Nat) (h : k < nh + 1) => SlH_at hkA (k := k) (by rw [List.length_cons, hnh]; exact h)
  clear hkA
  -- what is asked of each point
  have hask : ∀ (p : Int × Int), polHas l H p = true → Bn3 p → ∀ u v, Below wc.heap.size wc u → SlP u v [(p.1, p.2)] → ∃ c2,
      (∀ z, Below u.heap.size u z → Calls Tryz.prog 21 #[.agg #[.int .i64 3, .slice A1 ng k1, .slice A2 nh k2], .agg #[.int .i64 0, v, .slice none 0 0], .int .i64 0, .int .i64 0] z fun e w' => e = .returned (.tuple #[.bool true, .bool true]) ∧ Below z.heap.size z w') ∧
      (∀ z, Below u.heap.size u z → Calls Tryz.prog 21 #[.agg #[.int .i64 0, v, .slice none 0 0], .agg #[.int .i64 3, .slice A1 ng k1, .slice A2 nh k2], .int .i64 0, .int .i64 0] z fun e w' => e = .returned (.tuple #[.bool c2, .bool true]) ∧ Below z.heap.size z w') := by
    intro p hp hb u v hu s1
    have ok0 : ShOk 0 [(p.1, p.2)] [] := ⟨by intro q hq; simp at hq; rw [hq]; exact hb, by simp, by simp, .inl ⟨rfl, p, rfl⟩⟩
    have e1 : hdS 3 l H 0 [(p.1, p.2)] [] = true := hp
    have e2 : mtV 3 l H 0 [(p.1, p.2)] [] = true := hp
    have e3 : mtV 0 [(p.1, p.2)] [] 3 l H = true := hp
    refine ⟨hdS 0 [(p.1, p.2)] [] 3 l H, fun z hz => ?_, fun z hz => ?_⟩
    · have hz' := hu.trans (hz.mono hu.size)
      have := ask_sc (X := 0) (by omega) 3 _ _ ok3 0 _ _ (.inr (.inr (.inr ⟨rfl, .inl rfl⟩))) ok0 (.slice A1 ng k1) (.slice A2 nh k2) v (.slice none 0 0) z (p1.below hz') (p2.below hz') (s1.below hz) (SlH_nil _ 0 none)
      rw [e1, e2] at this
      exact this
    · have hz' := hu.trans (hz.mono hu.size)
      have := ask_sc (X := 0) (by omega) 0 _ _ ok0 3 _ _ (.inl rfl) ok3 v (.slice none 0 0) (.slice A1 ng k1) (.slice A2 nh k2) z (s1.below hz) (SlH_nil _ 0 none) (p1.below hz') (p2.below hz')
      rw [e3] at this
      exact this
  clear ok3 p1 p2
  generalize hAl : (l :: H) = AL at *
  clear hAl hAL
  go_wp2
  go_loopw [26] (fun i wr => ∃ k : Nat, k ≤ nh + 1 ∧ i = .int .i64 k ∧ Blk w wr [(sb, #[.int .i64 3, .slice A1 ng k1, .slice A2 nh k2], 34), (w.heap.size, #[.slice Ag ng cg, .slice Ah nh ch], 25)] ∧ Below wc.heap.size wc wr) (fun i _ => nh + 1 - (intOf i).toNat)
  case atStart => exact ⟨0, Nat.zero_le _, rfl, st5, Below.refl _ _⟩
  case round =>
    clear st5
    obtain ⟨ia, hka, rfl, st, hB⟩ := hrel
    rcases Nat.lt_or_ge ia (nh + 1) with hlt | hge
    · obtain ⟨bb, off, vm, eq1, eq2, hm⟩ := hatA ia hlt
      have eq2 := (hB.cell (World.block_lt_of_cell? _ _ eq2)).trans eq2
      have hm := hm.below hB
      simp only [Option.some.injEq, Addr.mk.injEq, and_true] at eq1
      obtain ⟨rfl, rfl⟩ := eq1
      obtain ⟨Am, cm, rfl, hkm⟩ := id hm
      simp only [Nat.zero_add] at eq2
      have hed := fun j hj => hedge ia j (by omega) hj
      obtain ⟨hm12, hm3, hmB⟩ := hALl ia hlt
      generalize AL.getD ia [] = m at *
      have hlt' : (ia : Int) < ((nh + 1 : Nat) : Int) := by omega
      clear hedge hatA hALl
      generalize hnm : m.length = nm at *
      go_wp2
      generalize wr = wo at *
      go_loopw [32] (fun i wr => ∃ k : Nat, k ≤ nm ∧ i = .int .i64 k ∧ Blk w wr [(sb, #[.int .i64 3, .slice A1 ng k1, .slice A2 nh k2], 34), (w.heap.size, #[.slice Ag ng cg, .slice Ah nh ch], 25)] ∧ Below wo.heap.size wo wr) (fun i _ => nm - (intOf i).toNat)
      case atStart => exact ⟨0, Nat.zero_le _, rfl, st, Below.refl _ _⟩
      case round =>
        clear st
        obtain ⟨jj, hjj, rfl, st, hBo⟩ := hrel
        rcases Nat.lt_or_ge jj nm with hjl | hjg
        · obtain ⟨n, d1, d2, hgc, hn0, f1, f2, hpt⟩ := hed jj hjl
          have hjx := nxi_lt hjl
          have hmod := nxi_mod hjl
          obtain ⟨bm, om, rfl, m1, m2, m3, m4⟩ := SlP.two hkm (by rw [hnm]; exact hjl) (by rw [hnm]; exact hjx)
          have hne : nxp m jj = at' m (nxi nm jj) := by rw [← hnm]; rfl
          rw [hne] at hgc f1 f2
          have hsp := fun u => stp_c (at' m jj) (at' m (nxi nm jj)) n d1 d2 (at_bs hmB _) (at_bs hmB _) hgc hn0 f1 f2 u
          have hpt : ∀ k, k ≤ n → polHas l H (stf (at' m jj) d1 d2 k) = true ∧ Bn3 (stf (at' m jj) d1 d2 k) := hpt
          have hn4 : n ≤ 4000 := by
            have b1 := at_bs hmB jj
            have b2 := at_bs hmB (nxi nm jj)
            unfold Bs at b1 b2
            rcases Nat.eq_zero_or_pos ((at' m (nxi nm jj)).1 - (at' m jj).1).natAbs with h | h
            · rw [h, Nat.gcd_zero_left] at hgc; omega
            · have := Nat.gcd_le_left ((at' m (nxi nm jj)).2 - (at' m jj).2).natAbs h; omega
          generalize nxi nm jj = jn at *
          have m1 := (hBo.cell (World.block_lt_of_cell? _ _ m1)).trans m1
          have m2 := (hBo.cell (World.block_lt_of_cell? _ _ m2)).trans m2
          have m3 := (hBo.cell (World.block_lt_of_cell? _ _ m3)).trans m3
          have m4 := (hBo.cell (World.block_lt_of_cell? _ _ m4)).trans m4
          clear hgc f1 f2 hne
          obtain ⟨pa, hpa⟩ : ∃ x, at' m jj = x := ⟨_, rfl⟩
          obtain ⟨pb, hpb⟩ : ∃ x, at' m jn = x := ⟨_, rfl⟩
          rw [hpa] at m1 m2 hsp hpt
          rw [hpb] at m3 m4 hsp
          have hlt1 : (jj : Int) < (nm : Int) := by omega
          have hlt2 : (jn : Int) < (nm : Int) := by omega
          have hnm0 : ¬ nm = 0 := by omega
          have hnm0' : ¬ (nm : Int) = 0 := by omega
          have hw1 : Go.IntKind.i64.wrap ((jj : Int) + 1) = (jj : Int) + 1 := wrapS (by omega)
          have hw2 : Go.IntKind.i64.wrap ((jn : Nat) : Int) = ((jn : Nat) : Int) := wrapS (by omega)
          go_upto_region 12 with (fail)
          refine wp_region_K [] [.val (.slice (some ⟨bm, om, none⟩) nm cm), .val (.int .i64 (jj : Nat)), .val (.pointer (some ⟨bm, om + jj * 2, none⟩)), .val (.agg #[.int .i64 pa.1, .int .i64 pa.2]), .val (.slice (some ⟨bm, om, none⟩) nm cm), .val (.int .i64 (jj : Nat)), .val (.int .i64 ((jj : Int) + 1)), .val (.slice (some ⟨bm, om, none⟩) nm cm), .val (.int .i64 (nm : Nat)), .val (.int .i64 (jn : Nat)), .val (.pointer (some ⟨bm, om + jn * 2, none⟩)), .val (.agg #[.int .i64 pb.1, .int .i64 pb.2]), .slr (stps pa d1 d2 n), .val (.int .i64 ((n + 1 : Nat) : Int)), .val (.int .i64 0)]
            [[.ini 5], [.ini 6], [.frm 0 35, .frm 1 36], [.frm 2 37], [.ini 5], [.ini 6], [.frm 5 40], [.ini 5], [.frm 7 42], [.frm 6 41, .frm 8 43], [.frm 4 39, .frm 9 44], [.frm 10 45], [.frm 3 38, .frm 11 46], [.frm 12 47], []]
            mixed (by kernel_rfl) (by kernel_rfl) (allPre_of ⟨trivial, trivial, trivial, trivial, trivial, trivial, trivial, trivial, trivial, trivial, trivial, trivial, trivial, trivial, trivial, trivial⟩)
            ⟨OpOk.quiet rfl ?_, OpOk.quiet rfl ?_, OpOk.quiet rfl ?_, OpOk.quiet rfl ?_, OpOk.quiet rfl ?_, OpOk.quiet rfl ?_, OpOk.quiet rfl ?_, OpOk.quiet rfl ?_, OpOk.quiet rfl ?_, OpOk.quiet rfl ?_, OpOk.quiet rfl ?_, OpOk.quiet rfl ?_, OpOk.call rfl ?_, OpOk.quiet rfl ?_, OpOk.quiet rfl ?_, trivial⟩ ?_
          iterate 3
            · intro a_ u _ hf
              simp [facts, Need.fact, Ent.val, Act.eval] at hf
              go_simp
          · intro a_ u hG hf
            simp [facts, Need.fact, Ent.val, Act.eval] at hf
            have y0 := (hG.below.cell (World.block_lt_of_cell? _ _ m1)).trans m1
            have y1 := (hG.below.cell (World.block_lt_of_cell? _ _ m2)).trans m2
            go_simp
          iterate 7
            · intro a_ u _ hf
              simp [facts, Need.fact, Ent.val, Act.eval] at hf
              go_simp
          · intro a_ u hG hf
            simp [facts, Need.fact, Ent.val, Act.eval] at hf
            have y0 := (hG.below.cell (World.block_lt_of_cell? _ _ m3)).trans m3
            have y1 := (hG.below.cell (World.block_lt_of_cell? _ _ m4)).trans m4
            go_simp
          · intro a_ u hG hf
            simp [facts, Need.fact, Ent.val, Act.eval] at hf
            refine ⟨_, _, by go_simp, (hsp u).mono ?_⟩
            rintro e w' ⟨v9, rfl, g1, hb⟩
            exact ⟨_, rfl, hb, g1⟩
          · intro a_ u hG hf
            obtain ⟨⟨_, _, f1⟩, -⟩ := hf
            obtain ⟨A9, c9, f3⟩ := SlR.len f1
            have hl9 : (stps pa d1 d2 n).length = n + 1 := by unfold stps; simp
            simp [Act.eval, hl9] at f3
            go_simp
          · intro a_ u _ hf
            simp [facts, Need.fact, Ent.val, Act.eval] at hf
            go_simp
          intro u lw hw wc2 hKp hE hI hD
          simp only [allE, Ent.val] at hE
          obtain ⟨u0, u1, u2, u3, u4, u5, u6, u7, u8, u9, u10, u11, u12, u13, u14, -⟩ := hE
          simp only [Nat.reduceAdd] at u0 u1 u2 u3 u4 u5 u6 u7 u8 u9 u10 u11 u13 u14
          simp only [allPut, Act.put, Nat.reduceAdd, u0, u1, u2, u3, u4, u5, u6, u7, u8, u9, u10, u11, u13, u14]
          try simp only [List.setIfInBounds_toArray, List.set_cons_zero, List.set_cons_succ]
          clear hI hD u0 u1 u2 u3 u4 u5 u6 u7 u8 u9 u10 u11 u13 u14
          skip
          replace u12 : SlR (lw 12) (hw 12) wc2 (u 12) (stps pa d1 d2 n) := u12
          have u12 := u12.p
          have hlen : (stps pa d1 d2 n).length = n + 1 := by unfold stps; simp
          obtain ⟨Ast, cst, e12, hkst⟩ := id u12
          rw [hlen] at e12
          rw [e12] at u12 ⊢
          have hBq := hBo.trans (hKp.below.mono hBo.size)
          have st := st.keep0 hKp
          clear hKp hBo m1 m2 m3 m4 hsp
          clear e12 hlen
          go_wp2
          generalize wc2 = w7 at *
          clear u12
          go_loopw [49] (fun i wr => ∃ k : Nat, k ≤ n + 1 ∧ i = .int .i64 k ∧ Blk w wr [(sb, #[.int .i64 3, .slice A1 ng k1, .slice A2 nh k2], 34), (w.heap.size, #[.slice Ag ng cg, .slice Ah nh ch], 25)] ∧ Below w7.heap.size w7 wr) (fun i _ => n + 1 - (intOf i).toNat)
          case atStart => exact ⟨0, Nat.zero_le _, rfl, st, Below.refl _ _⟩
          case round =>
            clear st
            obtain ⟨kk, hkk, rfl, st, hB7⟩ := hrel
            have hBz := hBq.trans (hB7.mono hBq.size)
            rcases Nat.lt_or_ge kk (n + 1) with hkl | hkg
            · obtain ⟨hin, hb3⟩ := hpt kk (by omega)
              obtain ⟨bs, os, rfl, m1, m2⟩ := hkst kk _ (stps_at _ _ _ _ hkl)
              generalize stf pa d1 d2 kk = pp at *
              obtain ⟨x, y⟩ := pp
              have m1 := (hB7.cell (World.block_lt_of_cell? _ _ m1)).trans m1
              have m2 := (hB7.cell (World.block_lt_of_cell? _ _ m2)).trans m2
              simp only at m1 m2
              have hkl' : (kk : Int) < ((n + 1 : Nat) : Int) := by omega
              have st1 := st.push (b := wr.heap.size) rfl #[.int .i64 x, .int .i64 y] 27
              have hBy := hBz.alloc hBz.size (.cells #[.int .i64 x, .int .i64 y] 27)
              by_cases h20 : (20 : Int) < (kk : Int)
              · have d20 := decide_eq_true h20
                clear st
                go_wp2
                go_roundw
                case rel => exact ⟨jj + 1, by omega, by go_num, st1.tail, hBy⟩
                case measure => simp [intOf]; omega
              · have d20 := decide_eq_false h20
                clear st
                have hBc := hB.trans (hBy.mono hB.size)
                have hB7y := hB7.alloc hB7.size (.cells #[.int .i64 x, .int .i64 y] 27)
                have hask := fun u v (hu : Below (wr.alloc (.cells #[.int .i64 x, .int .i64 y] 27)).heap.size (wr.alloc (.cells #[.int .i64 x, .int .i64 y] 27)) u) => hask (x, y) hin hb3 u v (hBc.trans (hu.mono hBc.size))
                go_upto_region 16 with (fail)
                clear hBy hBc m1 m2
                generalize wr.alloc _ = w8 at *
                generalize wr.heap.size = pq at *
                refine wp_region_K [] [.val (.agg #[.int .i64 3, .slice A1 ng k1, .slice A2 nh k2]), .val (.agg #[.int .i64 x, .int .i64 y]), .sLn 0 [(x, y)], .val (.tuple #[.bool true, .bool true]), .val (.tuple #[.bool true, .bool true]), .val (.bool true), .val (.bool true), .val (.bool true), .val (.bool true)]
                  [[.ini 3], [.ini 8], [.frm 1 58], [.frm 0 57, .frm 2 59], [.frm 3 60], [.frm 4 56], [.frm 4 56], [.frm 5 61], [.frm 6 62]]
                  mixed (by kernel_rfl) (by kernel_rfl) (allPre_of ⟨trivial, trivial, trivial, trivial, trivial, trivial, trivial, trivial, trivial, trivial⟩)
                  ⟨OpOk.quiet rfl ?_, OpOk.quiet rfl ?_, OpOk.call rfl ?_, OpOk.call rfl ?_, OpOk.quiet rfl ?_, OpOk.quiet rfl ?_, OpOk.quiet rfl ?_, OpOk.quiet rfl ?_, OpOk.quiet rfl ?_, trivial⟩ ?_
                · intro a_ u hG hf
                  simp [facts, Need.fact, Ent.val, Act.eval] at hf
                  obtain ⟨y0, y1, y2⟩ := st1.k3 hG 1 rfl
                  go_simp
                · intro a_ u hG hf
                  simp [facts, Need.fact, Ent.val, Act.eval] at hf
                  obtain ⟨y0, y1⟩ := st1.k2 hG 0 rfl
                  go_simp
                · intro a_ u hG hf
                  simp [facts, Need.fact, Ent.val, Act.eval] at hf
                  refine ⟨_, _, by go_simp, (scPt_n x y u).mono ?_⟩
                  rintro e w' ⟨v9, rfl, g1, hb⟩
                  exact ⟨_, rfl, hb, v9, rfl, g1⟩
                · intro a_ u hG hf
                  obtain ⟨⟨_, _, f1⟩, ⟨_, _, f2⟩, -⟩ := hf
                  obtain ⟨v9, f3, f4⟩ := f2
                  obtain ⟨A7, k7, e7, -⟩ := id f4.p
                  subst e7
                  have f1' : a_.eval (.tmp 57) = .agg #[.int .i64 3, .slice A1 ng k1, .slice A2 nh k2] := f1
                  simp [Act.eval] at f1' f3
                  obtain ⟨c2, ha1, ha2⟩ := hask u _ hG.below f4.p
                  refine ⟨_, _, by go_simp, (mee_c 3 0 A1 A2 A7 none ng nh 1 0 k1 k2 k7 0 true true c2 true u ha1 ha2).mono ?_⟩
                  rintro e w' ⟨rfl, hb⟩
                  exact ⟨_, rfl, hb, rfl⟩
                iterate 5
                  · intro a_ u _ hf
                    simp [facts, Need.fact, Ent.val, Act.eval] at hf
                    go_simp
                intro u lw hw wc3 hKp hE hI hD
                simp only [allE, Ent.val] at hE
                obtain ⟨u0, u1, -, u3, u4, u5, u6, u7, u8, -⟩ := hE
                simp only [Nat.reduceAdd] at u0 u1 u3 u4 u5 u6 u7 u8
                simp only [allPut, Act.put, Nat.reduceAdd, u0, u1, u3, u4, u5, u6, u7, u8]
                try simp only [List.setIfInBounds_toArray, List.set_cons_zero, List.set_cons_succ]
                clear hI hD u0 u1 u3 u4 u5 u6 u7 u8
                generalize u 2 = y_2
                have st2 := st1.keep0 hKp
                have hB8 := hB7y.trans (hKp.below.mono hB7y.size)
                have hask := fun u v (hu : Below wc3.heap.size wc3 u) => hask u v (hKp.below.trans (hu.mono hKp.below.size))
                clear st1 hKp hB7y
                go_upto_region 17 with (fail)
                refine wp_region_K [] [.val (.agg #[.int .i64 3, .slice A1 ng k1, .slice A2 nh k2]), .val (.agg #[.int .i64 x, .int .i64 y]), .sLn 0 [(x, y)], .val (.bool true), .val (.bool false), .val (.bool false), .val (.bool true), .val (.bool false), .val (.bool false), .val (.bool false), .val (.bool true), .val (.bool false), .val (.bool false)]
                  [[.ini 3], [.ini 8], [.frm 1 64], [.frm 0 63, .frm 2 65], [.frm 3 66], [.frm 4 67], [.frm 5 68, .ini 9], [.frm 5 68, .frm 6 69], [.frm 5 68, .frm 7 70], [.frm 8 71], [.frm 9 72, .ini 10], [.frm 9 72, .frm 10 73], [.frm 9 72, .frm 11 74]]
                  mixed (by kernel_rfl) (by kernel_rfl) (allPre_of ⟨trivial, trivial, trivial, trivial, trivial, trivial, trivial, trivial, trivial, trivial, trivial, trivial, trivial, trivial⟩)
                  ⟨OpOk.quiet rfl ?_, OpOk.quiet rfl ?_, OpOk.call rfl ?_, OpOk.call rfl ?_, OpOk.quiet rfl ?_, OpOk.quiet rfl ?_, qt rfl (by kernel_rfl) rfl ?_, qt rfl (by kernel_rfl) rfl ?_, OpOk.quiet rfl ?_, OpOk.quiet rfl ?_, qt rfl (by kernel_rfl) rfl ?_, qt rfl (by kernel_rfl) rfl ?_, OpOk.quiet rfl ?_, trivial⟩ ?_
                · intro a_ u hG hf
                  simp [facts, Need.fact, Ent.val, Act.eval] at hf
                  obtain ⟨y0, y1, y2⟩ := st2.k3 hG 1 rfl
                  go_simp
                · intro a_ u hG hf
                  simp [facts, Need.fact, Ent.val, Act.eval] at hf
                  obtain ⟨y0, y1⟩ := st2.k2 hG 0 rfl
                  go_simp
                · intro a_ u hG hf
                  simp [facts, Need.fact, Ent.val, Act.eval] at hf
                  refine ⟨_, _, by go_simp, (scPt_n x y u).mono ?_⟩
                  rintro e w' ⟨v9, rfl, g1, hb⟩
                  exact ⟨_, rfl, hb, v9, rfl, g1⟩
                · intro a_ u hG hf
                  obtain ⟨⟨_, _, f1⟩, ⟨_, _, f2⟩, -⟩ := hf
                  obtain ⟨v9, f3, f4⟩ := f2
                  obtain ⟨A7, k7, e7, -⟩ := id f4.p
                  subst e7
                  have f1' : a_.eval (.tmp 63) = .agg #[.int .i64 3, .slice A1 ng k1, .slice A2 nh k2] := f1
                  simp [Act.eval] at f1' f3
                  obtain ⟨c2, ha1, ha2⟩ := hask u _ hG.below f4.p
                  refine ⟨_, _, by go_simp, (hol_c 3 0 A1 A2 A7 none ng nh 1 0 k1 k2 k7 0 true true u ha1).mono ?_⟩
                  rintro e w' ⟨rfl, hb⟩
                  exact ⟨_, rfl, hb, rfl⟩
                iterate 9
                  · intro a_ u _ hf
                    simp [facts, Need.fact, Ent.val, Act.eval] at hf
                    go_simp
                intro u lw hw wc4 hKp hE hI hD
                simp only [allE, Ent.val] at hE
                obtain ⟨u0, u1, -, u3, u4, u5, u6, u7, u8, u9, u10, u11, u12, -⟩ := hE
                simp only [Nat.reduceAdd] at u0 u1 u3 u4 u5 u6 u7 u8 u9 u10 u11 u12
                simp only [allPut, Act.put, Nat.reduceAdd, u0, u1, u3, u4, u5, u6, u7, u8, u9, u10, u11, u12]
                try simp only [List.setIfInBounds_toArray, List.set_cons_zero, List.set_cons_succ]
                clear hI hD u0 u1 u3 u4 u5 u6 u7 u8 u9 u10 u11 u12
                generalize u 2 = y_2
                have st3 := st2.keep0 hKp
                have hB9 := hB8.trans (hKp.below.mono hB8.size)
                clear st2 hKp hB8 hask
                go_wp2
                go_roundw
                case rel => exact ⟨kk + 1, by omega, by go_num, st3.tail, hB9⟩
                case measure => simp [intOf]; omega
            · obtain rfl : kk = n + 1 := by omega
              clear hkst hpt
              go_wp2
              go_roundw
              case rel => exact ⟨jj + 1, by omega, by go_num, st, hBz⟩
              case measure => simp [intOf]; omega
        · obtain rfl : jj = nm := by omega
          go_wp2
          go_roundw
          case rel => exact ⟨ia + 1, by omega, by go_num, st, hB.trans (hBo.mono hB.size)⟩
          case measure => simp [intOf]; omega
    · obtain rfl : ia = nh + 1 := by omega
      clear hask hedge hatA hALl
      go_wp2_with (go_at_call 22; refine JR.StopY.out ?_)
      refine ⟨?_⟩
      refine (awk_c _).mono ?_
      rintro e w8 ⟨rfl, hb⟩
      have st8 := st.ext hb
      clear hb st
      go_wp2
      go_ret
      exact ⟨rfl, st8.hb⟩
end Go.Proofs.YtcoeiimohkofjaaGreat
