import Derived.Test.YtcoeiimohkofjaaGreatQX
import Derived.Test.YtcoeiimohkofjaaGreatYi
set_option linter.unusedSimpArgs false
set_option linter.unusedVariables false
/-! Plane geometry: a segment whose ends are outside a ring meets none of its edges, or two; so a ring and a line meet just if they have a point in common. -/
namespace PF
section
variable {P Q a b : Int × Int}
/-- two segments cross, each within the other -/
def crs (P Q a b : Int × Int) : Prop := ((0 < gsd P Q a ∧ gsd P Q b < 0) ∨ (gsd P Q a < 0 ∧ 0 < gsd P Q b)) ∧ ((0 < gsd a b P ∧ gsd a b Q < 0) ∨ (gsd a b P < 0 ∧ 0 < gsd a b Q))
theorem crs_swap1 (h : crs P Q a b) : crs Q P a b := by
  have e1 := gsd_swap P Q a
  have e2 := gsd_swap P Q b
  unfold crs at h ⊢
  omega
theorem gmt_cases (h : gmt P Q a b = true) : gon P Q a = true ∨ gon P Q b = true ∨ gon a b P = true ∨ gon a b Q = true ∨ crs P Q a b := by
  unfold gmt at h
  rw [Bool.or_eq_true, Bool.or_eq_true, Bool.or_eq_true, Bool.or_eq_true, Bool.and_eq_true, decide_eq_true_iff, decide_eq_true_iff, gsgn_neg, gsgn_neg] at h
  rcases h with (((h | h) | h) | h) | ⟨h1, h2⟩
  · exact .inl h
  · exact .inr (.inl h)
  · exact .inr (.inr (.inl h))
  · exact .inr (.inr (.inr (.inl h)))
  · exact .inr (.inr (.inr (.inr ⟨h1.elim .inr .inl, h2.elim .inr .inl⟩)))
theorem gmt_3 (h : gon a b P = true) : gmt P Q a b = true := by unfold gmt; rw [h, Bool.or_true, Bool.true_or, Bool.true_or]
end
/-- an odd number of the first n is true -/
def xoN (f : Nat → Bool) : Nat → Bool
  | 0 => false
  | n + 1 => xoN f n != f n
theorem xoN_congr {f g : Nat → Bool} : ∀ {n : Nat}, (∀ k, k < n → f k = g k) → xoN f n = xoN g n := by
  intro n
  induction n with
  | zero => intro _; rfl
  | succ n ih => intro h; rw [xoN, xoN, ih fun k hk => h k (by omega), h n (by omega)]
theorem xoN_none {f : Nat → Bool} : ∀ {n : Nat}, (∀ k, k < n → f k = false) → xoN f n = false := by
  intro n
  induction n with
  | zero => intro _; rfl
  | succ n ih => intro h; rw [xoN, ih fun k hk => h k (by omega), h n (by omega)]; rfl
theorem xoN_one {i : Nat} : ∀ {n : Nat}, i < n → xoN (fun k => decide (k = i)) n = true := by
  intro n
  induction n with
  | zero => intro h; omega
  | succ n ih =>
    intro h
    rw [xoN]
    by_cases g : n = i
    · rw [xoN_none fun k hk => decide_eq_false (by omega), decide_eq_true g]; rfl
    · rw [ih (by omega), decide_eq_false g]; rfl
end PF
namespace Go.Proofs.YtcoeiimohkofjaaGreat
open Go.RowKit PF JR
theorem xrs_xo (l : List (Int × Int)) (p : Int × Int) : ∀ n, xrs l p n = xoN (rin l p) n := by
  intro n
  induction n with
  | zero => rfl
  | succ n ih => rw [xrs, xoN, ih]
theorem xoN_cyc {l : List (Int × Int)} (q : Int × Int → Bool) (h0 : 0 < l.length) : xoN (fun k => q (at' l k) != q (nxp l k)) l.length = false := by
  have key : ∀ k, k < l.length → xoN (fun k => q (at' l k) != q (nxp l k)) k = (q (at' l 0) != q (at' l k)) := by
    intro k
    induction k with
    | zero => intro _; simp [xoN]
    | succ k ih =>
      intro hk
      rw [xoN, ih (by omega), nxp_mid hk]
      cases q (at' l 0) <;> cases q (at' l k) <;> cases q (at' l (k + 1)) <;> rfl
  obtain ⟨n, hn⟩ : ∃ n, l.length = n + 1 := ⟨l.length - 1, by omega⟩
  rw [hn, xoN, key n (by omega), nxp_end hn.symm]
  cases q (at' l 0) <;> cases q (at' l n) <;> rfl
end Go.Proofs.YtcoeiimohkofjaaGreat
set_option linter.unusedSimpArgs false
set_option linter.unusedVariables false
/-! Plane geometry: two segments meet just if they have a point in common (whole, once all is scaled); so a path of two segments that cross keeps its side of a ring that it does not meet. -/
namespace PF
def scl (D : Int) (p : Int × Int) : Int × Int := (D * p.1, D * p.2)
section
variable {P Q X Y M a b c d p q r : Int × Int} {D : Int}
theorem scl_one (p : Int × Int) : scl 1 p = p := by unfold scl; rw [Int.one_mul, Int.one_mul]
theorem gsd_scl : gsd (scl D a) (scl D b) (scl D p) = D * D * gsd a b p := by unfold gsd scl; grind
theorem mulD_le (hD : 0 < D) {x y : Int} : D * x ≤ D * y ↔ x ≤ y := ⟨fun h => Int.le_of_mul_le_mul_left h hD, fun h => Int.mul_le_mul_of_nonneg_left h (by omega)⟩
theorem mulD_zero (hD : 0 < D) {x : Int} : D * D * x = 0 ↔ x = 0 := by
  constructor
  · intro h
    have h2 := mpp hD hD
    rcases Int.mul_eq_zero.1 h with g | g
    · omega
    · exact g
  · intro h; rw [h, Int.mul_zero]
theorem mulD_pos (hD : 0 < D) {x : Int} : 0 < D * D * x ↔ 0 < x := by
  have h2 := mpp hD hD
  constructor
  · exact fun h => pos_of_mul (by omega) h
  · exact fun h => mpp h2 h
theorem mulD_neg (hD : 0 < D) {x : Int} : D * D * x < 0 ↔ x < 0 := by
  have h1 := mulD_pos hD (x := x)
  have h2 := mulD_zero hD (x := x)
  omega
theorem gsgn_scl (hD : 0 < D) (x : Int) : gsgn (D * D * x) = gsgn x := by
  have h1 := mulD_pos hD (x := x)
  have h2 := mulD_neg hD (x := x)
  unfold gsgn
  split <;> split <;> (try split) <;> (try split) <;> omega
theorem gon_swap (a b p : Int × Int) : gon b a p = gon a b p := by
  unfold gon gwi; rw [gsd_swap a b p, Int.min_comm, Int.max_comm, Int.min_comm b.2, Int.max_comm b.2, decide_eq_decide.2 (show -gsd a b p = 0 ↔ gsd a b p = 0 by omega)]
theorem gon_scl (hD : 0 < D) : gon (scl D a) (scl D b) (scl D p) = gon a b p := by
  have l1 := mulD_le hD (x := a.1) (y := p.1)
  have l2 := mulD_le hD (x := p.1) (y := b.1)
  have l3 := mulD_le hD (x := b.1) (y := p.1)
  have l4 := mulD_le hD (x := p.1) (y := a.1)
  have l5 := mulD_le hD (x := a.2) (y := p.2)
  have l6 := mulD_le hD (x := p.2) (y := b.2)
  have l7 := mulD_le hD (x := b.2) (y := p.2)
  have l8 := mulD_le hD (x := p.2) (y := a.2)
  have l9 := mulD_zero hD (x := gsd a b p)
  rw [Bool.eq_iff_iff, gon_iff, gon_iff, gsd_scl, l9]
  unfold scl
  simp only
  omega
theorem gmt_scl (hD : 0 < D) (a b c d : Int × Int) : gmt (scl D a) (scl D b) (scl D c) (scl D d) = gmt a b c d := by
  unfold gmt
  rw [gon_scl hD, gon_scl hD, gon_scl hD, gon_scl hD, gsd_scl, gsd_scl, gsd_scl, gsd_scl, gsgn_scl hD, gsgn_scl hD, gsgn_scl hD, gsgn_scl hD]
theorem conv_box {t u x y : Int} (ht : 0 ≤ t) (hu : 0 ≤ u) : min ((t + u) * x) ((t + u) * y) ≤ t * y + u * x ∧ t * y + u * x ≤ max ((t + u) * x) ((t + u) * y) := by
  have e1 : (t + u) * x = t * x + u * x := by grind
  have e2 : (t + u) * y = t * y + u * y := by grind
  rw [e1, e2]
  rcases Int.le_total x y with h | h
  · have h1 := Int.mul_le_mul_of_nonneg_left h ht
    have h2 := Int.mul_le_mul_of_nonneg_left h hu
    omega
  · have h1 := Int.mul_le_mul_of_nonneg_left h ht
    have h2 := Int.mul_le_mul_of_nonneg_left h hu
    omega
theorem crs_common (h : crs P Q a b) (ht : 0 < gsd a b P ∧ gsd a b Q < 0) : ∃ D X, 0 < D ∧ gon (scl D P) (scl D Q) X = true ∧ gon (scl D a) (scl D b) X = true := by
  have i3 := se3 (P := P) (Q := Q) (a := a) (b := b)
  have b1 : gsd a b P * Q.1 + -gsd a b Q * P.1 = -gsd P Q a * b.1 + gsd P Q b * a.1 := by unfold gsd; grind
  have b2 : gsd a b P * Q.2 + -gsd a b Q * P.2 = -gsd P Q a * b.2 + gsd P Q b * a.2 := by unfold gsd; grind
  have z1 : gsd (scl (gsd a b P + -gsd a b Q) P) (scl (gsd a b P + -gsd a b Q) Q) (gsd a b P * Q.1 + -gsd a b Q * P.1, gsd a b P * Q.2 + -gsd a b Q * P.2) = 0 := by
    generalize gsd a b P = t
    generalize gsd a b Q = u
    unfold gsd scl; simp only; grind
  have z2 : gsd (scl (gsd a b P + -gsd a b Q) a) (scl (gsd a b P + -gsd a b Q) b) (gsd a b P * Q.1 + -gsd a b Q * P.1, gsd a b P * Q.2 + -gsd a b Q * P.2) = 0 := by
    have k : ∀ t u : Int, gsd (scl (t + -u) a) (scl (t + -u) b) (t * Q.1 + -u * P.1, t * Q.2 + -u * P.2) = (t + -u) * (t * gsd a b Q - u * gsd a b P) := fun t u => by unfold gsd scl; simp only; grind
    rw [k, show gsd a b P * gsd a b Q - gsd a b Q * gsd a b P = 0 by rw [Int.mul_comm]; omega, Int.mul_zero]
  unfold crs at h
  refine ⟨gsd a b P + -gsd a b Q, (gsd a b P * Q.1 + -gsd a b Q * P.1, gsd a b P * Q.2 + -gsd a b Q * P.2), by omega, gon_iff.2 ⟨?_, z1⟩, gon_iff.2 ⟨?_, z2⟩⟩
  · have c1 := conv_box (t := gsd a b P) (u := -gsd a b Q) (x := P.1) (y := Q.1) (by omega) (by omega)
    have c2 := conv_box (t := gsd a b P) (u := -gsd a b Q) (x := P.2) (y := Q.2) (by omega) (by omega)
    exact ⟨c1.1, c1.2, c2.1, c2.2⟩
  · have c1 := conv_box (t := -gsd P Q a) (u := gsd P Q b) (x := a.1) (y := b.1) (by omega) (by omega)
    have c2 := conv_box (t := -gsd P Q a) (u := gsd P Q b) (x := a.2) (y := b.2) (by omega) (by omega)
    rw [← b1, show -gsd P Q a + gsd P Q b = gsd a b P + -gsd a b Q by omega] at c1
    rw [← b2, show -gsd P Q a + gsd P Q b = gsd a b P + -gsd a b Q by omega] at c2
    exact ⟨c1.1, c1.2, c2.1, c2.2⟩
/-- two segments that meet have a point in common, whole once all is scaled -/
theorem gmt_common (h : gmt P Q a b = true) : ∃ D X, 0 < D ∧ gon (scl D P) (scl D Q) X = true ∧ gon (scl D a) (scl D b) X = true := by
  rcases gmt_cases h with g | g | g | g | g
  · exact ⟨1, a, by omega, by rw [scl_one, scl_one]; exact g, by rw [scl_one, scl_one]; exact gon_a _ _⟩
  · exact ⟨1, b, by omega, by rw [scl_one, scl_one]; exact g, by rw [scl_one, scl_one]; exact gon_b _ _⟩
  · exact ⟨1, P, by omega, by rw [scl_one, scl_one]; exact gon_a _ _, by rw [scl_one, scl_one]; exact g⟩
  · exact ⟨1, Q, by omega, by rw [scl_one, scl_one]; exact gon_b _ _, by rw [scl_one, scl_one]; exact g⟩
  · rcases g.2 with k | k
    · exact crs_common g k
    · obtain ⟨D, X, h1, h2, h3⟩ := crs_common (crs_swap1 g) ⟨k.2, k.1⟩
      exact ⟨D, X, h1, by rw [gon_swap]; exact h2, h3⟩
theorem gon_deg (h : gon a a X = true) : X = a := by
  have h := (gon_iff.1 h).1
  exact Prod.ext (by omega) (by omega)
/-- a point on a segment is a mean of its ends -/
theorem gon_par (h : gon P Q X = true) : ∃ n k : Int, 0 ≤ k ∧ k ≤ n ∧ 0 < n ∧ n * X.1 = (n - k) * P.1 + k * Q.1 ∧ n * X.2 = (n - k) * P.2 + k * Q.2 := by
  by_cases e : P = Q
  · subst e
    have e := gon_deg h
    subst e
    exact ⟨1, 0, by omega, by omega, by omega, by omega, by omega⟩
  obtain ⟨hb, hz⟩ := gon_iff.1 h
  have d1 : 0 ≤ (X.1 - P.1) * (Q.1 - P.1) := by
    rcases Int.le_total P.1 Q.1 with g | g
    · exact mqq (by omega) (by omega)
    · exact mrr (by omega) (by omega)
  have d2 : 0 ≤ (X.2 - P.2) * (Q.2 - P.2) := by
    rcases Int.le_total P.2 Q.2 with g | g
    · exact mqq (by omega) (by omega)
    · exact mrr (by omega) (by omega)
  have d3 : 0 ≤ (Q.1 - X.1) * (Q.1 - P.1) := by
    rcases Int.le_total P.1 Q.1 with g | g
    · exact mqq (by omega) (by omega)
    · exact mrr (by omega) (by omega)
  have d4 : 0 ≤ (Q.2 - X.2) * (Q.2 - P.2) := by
    rcases Int.le_total P.2 Q.2 with g | g
    · exact mqq (by omega) (by omega)
    · exact mrr (by omega) (by omega)
  have e1 : (Q.1 - P.1) * (Q.1 - P.1) = (X.1 - P.1) * (Q.1 - P.1) + (Q.1 - X.1) * (Q.1 - P.1) := by grind
  have e2 : (Q.2 - P.2) * (Q.2 - P.2) = (X.2 - P.2) * (Q.2 - P.2) + (Q.2 - X.2) * (Q.2 - P.2) := by grind
  refine ⟨(Q.1 - P.1) * (Q.1 - P.1) + (Q.2 - P.2) * (Q.2 - P.2), (X.1 - P.1) * (Q.1 - P.1) + (X.2 - P.2) * (Q.2 - P.2), by omega, by omega, ?_, ?_, ?_⟩
  · have s1 : 0 ≤ (Q.1 - P.1) * (Q.1 - P.1) := by omega
    have s2 : 0 ≤ (Q.2 - P.2) * (Q.2 - P.2) := by omega
    rcases (show Q.1 - P.1 ≠ 0 ∨ Q.2 - P.2 ≠ 0 from Classical.byContradiction fun hn => e (Prod.ext (by omega) (by omega))) with g | g
    · have : (Q.1 - P.1) * (Q.1 - P.1) ≠ 0 := fun h => g ((Int.mul_eq_zero.1 h).elim id id)
      omega
    · have : (Q.2 - P.2) * (Q.2 - P.2) ≠ 0 := fun h => g ((Int.mul_eq_zero.1 h).elim id id)
      omega
  · unfold gsd at hz; grind
  · unfold gsd at hz; grind
/-- how far along a b -/
def tau (a b p : Int × Int) : Int := (p.1 - a.1) * (b.1 - a.1) + (p.2 - a.2) * (b.2 - a.2)
theorem tau_pos (h : a ≠ b) : 0 < tau a b b := by
  unfold tau
  have s1 : 0 ≤ (b.1 - a.1) * (b.1 - a.1) := by
    rcases Int.le_total a.1 b.1 with g | g
    · exact mqq (by omega) (by omega)
    · exact mrr (by omega) (by omega)
  have s2 : 0 ≤ (b.2 - a.2) * (b.2 - a.2) := by
    rcases Int.le_total a.2 b.2 with g | g
    · exact mqq (by omega) (by omega)
    · exact mrr (by omega) (by omega)
  rcases (show b.1 - a.1 ≠ 0 ∨ b.2 - a.2 ≠ 0 from Classical.byContradiction fun hn => h (Prod.ext (by omega) (by omega))) with g | g
  · have : (b.1 - a.1) * (b.1 - a.1) ≠ 0 := fun h => g ((Int.mul_eq_zero.1 h).elim id id)
    omega
  · have : (b.2 - a.2) * (b.2 - a.2) ≠ 0 := fun h => g ((Int.mul_eq_zero.1 h).elim id id)
    omega
theorem tau_1 (hp : gsd a b p = 0) : tau a b b * (p.1 - a.1) = tau a b p * (b.1 - a.1) := by unfold tau; unfold gsd at hp; grind
theorem tau_2 (hp : gsd a b p = 0) : tau a b b * (p.2 - a.2) = tau a b p * (b.2 - a.2) := by unfold tau; unfold gsd at hp; grind
theorem col_box {N t1 t2 t3 e x1 x2 x3 : Int} (hN : 0 < N) (h1 : N * x1 = t1 * e) (h2 : N * x2 = t2 * e) (h3 : N * x3 = t3 * e) (hb : t1 ≤ t3 ∧ t3 ≤ t2) : min x1 x2 ≤ x3 ∧ x3 ≤ max x1 x2 := by
  have l1 := mulD_le hN (x := x1) (y := x3)
  have l2 := mulD_le hN (x := x3) (y := x2)
  have l3 := mulD_le hN (x := x3) (y := x1)
  have l4 := mulD_le hN (x := x2) (y := x3)
  rcases Int.le_total 0 e with g | g
  · have k1 := Int.mul_le_mul_of_nonneg_right hb.1 g
    have k2 := Int.mul_le_mul_of_nonneg_right hb.2 g
    omega
  · have k1 := mrr (m := t1 - t3) (n := e) (by omega) g
    have k2 := mrr (m := t3 - t2) (n := e) (by omega) g
    rw [Int.sub_mul] at k1 k2
    omega
/-- points of one line, in order -/
theorem col_on (hab : a ≠ b) (hp : gsd a b p = 0) (hq : gsd a b q = 0) (hr : gsd a b r = 0) (h : tau a b p ≤ tau a b r ∧ tau a b r ≤ tau a b q) : gon p q r = true := by
  have hN := tau_pos hab
  have p1 := tau_1 hp
  have p2 := tau_2 hp
  have q1 := tau_1 hq
  have q2 := tau_2 hq
  have r1 := tau_1 hr
  have r2 := tau_2 hr
  clear hp hq hr
  generalize tau a b b = N at *
  generalize tau a b p = t1 at *
  generalize tau a b q = t2 at *
  generalize tau a b r = t3 at *
  have c1 := col_box hN p1 q1 r1 h
  have c2 := col_box hN p2 q2 r2 h
  refine gon_iff.2 ⟨by omega, ?_⟩
  have k : N * N * gsd p q r = 0 := by
    have e : N * N * gsd p q r = (N * (q.1 - a.1) - N * (p.1 - a.1)) * (N * (r.2 - a.2) - N * (p.2 - a.2)) - (N * (q.2 - a.2) - N * (p.2 - a.2)) * (N * (r.1 - a.1) - N * (p.1 - a.1)) := by unfold gsd; grind
    rw [e, p1, p2, q1, q2, r1, r2]
    grind
  exact (mulD_zero hN).1 k
/-- **two segments with a point in common meet** -/
theorem gmt_point (h1 : gon P Q X = true) (h2 : gon a b X = true) : gmt P Q a b = true := by
  cases hm : gmt P Q a b with
  | true => rfl
  | false =>
    exfalso
    obtain ⟨g1, g2, g3, g4, g5⟩ := gmt_f hm
    obtain ⟨n, k, k0, kn, n0, e1, e2⟩ := gon_par h1
    obtain ⟨m, j, j0, jm, m0, f1, f2⟩ := gon_par h2
    have i3 := se3 (P := P) (Q := Q) (a := a) (b := b)
    have zX := (gon_iff.1 h2).2
    have zY := (gon_iff.1 h1).2
    have c1 : (n - k) * gsd a b P + k * gsd a b Q = 0 := by
      have : n * gsd a b X = (n - k) * gsd a b P + k * gsd a b Q := by unfold gsd; grind
      rw [← this, zX, Int.mul_zero]
    have c2 : (m - j) * gsd P Q a + j * gsd P Q b = 0 := by
      have : m * gsd P Q X = (m - j) * gsd P Q a + j * gsd P Q b := by unfold gsd; grind
      rw [← this, zY, Int.mul_zero]
    have cz : ∀ {n x y : Int}, 0 < n → n * x = n * y → x = y := fun hn h => Int.eq_of_mul_eq_mul_left (by omega) h
    have hk0 : k ≠ 0 := fun h => by
      subst h
      have : X = P := Prod.ext (cz n0 (by rw [e1]; grind)) (cz n0 (by rw [e2]; grind))
      rw [this, g3] at h2; cases h2
    have hkn : k ≠ n := fun h => by
      subst h
      have : X = Q := Prod.ext (cz n0 (by rw [e1]; omega)) (cz n0 (by rw [e2]; omega))
      rw [this, g4] at h2; cases h2
    have hj0 : j ≠ 0 := fun h => by
      subst h
      have : X = a := Prod.ext (cz m0 (by rw [f1]; grind)) (cz m0 (by rw [f2]; grind))
      rw [this, g1] at h1; cases h1
    have hjm : j ≠ m := fun h => by
      subst h
      have : X = b := Prod.ext (cz m0 (by rw [f1]; omega)) (cz m0 (by rw [f2]; omega))
      rw [this, g2] at h1; cases h1
    have opp : ∀ {x y s t : Int}, 0 < s → 0 < t → s * x + t * y = 0 → (x = 0 ∧ y = 0) ∨ (0 < x ∧ y < 0) ∨ (x < 0 ∧ 0 < y) := by
      intro x y s t hs ht h
      rcases Int.lt_trichotomy x 0 with g | g | g
      · have := mpn hs g
        have := pos_of_mul (m := t) (n := y) (by omega) (by omega)
        omega
      · subst g
        rw [Int.mul_zero] at h
        rcases Int.mul_eq_zero.1 (show t * y = 0 by omega) with g | g <;> omega
      · have := mpp hs g
        have := neg_of_mul (m := t) (n := y) (by omega) (by omega)
        omega
    have o1 := opp (by omega) (by omega) c1
    have o2 := opp (by omega) (by omega) c2
    have hz : gsd a b P = 0 ∧ gsd a b Q = 0 := by omega
    clear o1 o2 g5 c1 c2 i3
    have hab : a ≠ b := fun h => by
      subst h
      have := gon_deg h2
      subst this
      rw [g1] at h1; cases h1
    have hN := tau_pos hab
    have tX : n * tau a b X = (n - k) * tau a b P + k * tau a b Q := by unfold tau; grind
    have tY : m * tau a b X = j * tau a b b := by unfold tau; grind
    have za := gsd_a a b
    have zb := gsd_b a b
    have ta : tau a b a = 0 := by unfold tau; grind
    have w1 : ¬ (0 ≤ tau a b P ∧ tau a b P ≤ tau a b b) := fun h => by rw [col_on hab za zb hz.1 (by rw [ta]; exact h)] at g3; cases g3
    have w2 : ¬ (0 ≤ tau a b Q ∧ tau a b Q ≤ tau a b b) := fun h => by rw [col_on hab za zb hz.2 (by rw [ta]; exact h)] at g4; cases g4
    have w3 : ¬ (tau a b P ≤ 0 ∧ 0 ≤ tau a b Q) := fun h => by rw [col_on hab hz.1 hz.2 za (by rw [ta]; exact h)] at g1; cases g1
    have w4 : ¬ (tau a b Q ≤ 0 ∧ 0 ≤ tau a b P) := fun h => by rw [gon_swap, col_on hab hz.2 hz.1 za (by rw [ta]; exact h)] at g1; cases g1
    have x0 : 0 < tau a b X := pos_of_mul (m := m) (by omega) (by rw [tY]; exact mpp (by omega) hN)
    have x1 : tau a b X < tau a b b := by
      have : 0 < m * (tau a b b - tau a b X) := by
        rw [Int.mul_sub, tY, ← Int.sub_mul]; exact mpp (by omega) hN
      have := pos_of_mul (m := m) (by omega) this
      omega
    generalize tau a b P = tp at *
    generalize tau a b Q = tq at *
    generalize tau a b X = tx at *
    generalize tau a b b = N at *
    -- P and Q on one side of both a and b
    rcases (show (N < tp ∧ N < tq) ∨ (tp < 0 ∧ tq < 0) by omega) with g | g
    · have s1 := mpp (m := n - k) (n := tp - N) (by omega) (by omega)
      have s2 := mpp (m := k) (n := tq - N) (by omega) (by omega)
      have s3 : n * (tx - N) = (n - k) * (tp - N) + k * (tq - N) := by rw [Int.mul_sub, tX]; grind
      have s4 := mpn (m := n) (n := tx - N) (by omega) (by omega)
      omega
    · have s1 := mpn (m := n - k) (n := tp) (by omega) (by omega)
      have s2 := mpn (m := k) (n := tq) (by omega) (by omega)
      have s3 := mpp (m := n) (n := tx) (by omega) (by omega)
      omega
theorem gon_trans (h1 : gon P Q X = true) (h2 : gon P X Y = true) : gon P Q Y = true := by
  obtain ⟨b1, z1⟩ := gon_iff.1 h1
  obtain ⟨b2, z2⟩ := gon_iff.1 h2
  refine gon_iff.2 ⟨by omega, ?_⟩
  by_cases e : X = P
  · subst e
    have := gon_deg h2
    subst this
    exact gsd_a _ _
  · have k1 : (X.1 - P.1) * gsd P Q Y = 0 := by unfold gsd at z1 z2 ⊢; grind
    have k2 : (X.2 - P.2) * gsd P Q Y = 0 := by unfold gsd at z1 z2 ⊢; grind
    rcases Int.mul_eq_zero.1 k1 with g | g
    · rcases Int.mul_eq_zero.1 k2 with g' | g'
      · exact absurd (Prod.ext (by omega) (by omega)) e
      · exact g'
    · exact g
/-- what a part of a segment meets, it meets -/
theorem gmt_sub (h1 : gon P Q X = true) (h : gmt P X a b = true) : gmt P Q a b = true := by
  obtain ⟨D, Y, hD, g1, g2⟩ := gmt_common h
  rw [← gmt_scl hD]
  exact gmt_point (gon_trans (by rw [gon_scl hD]; exact h1) g1) g2
end
end PF
namespace Go.Proofs.YtcoeiimohkofjaaGreat
open Go.RowKit PF JR
end Go.Proofs.YtcoeiimohkofjaaGreat
set_option linter.unusedSimpArgs false
set_option linter.unusedVariables false
/-! Scene polygons, plain: rings that stand apart; the points on their edges. -/
namespace Go.Proofs.YtcoeiimohkofjaaGreat
open Go.RowKit PF JR
section
variable {l h : List (Int × Int)} {p : Int × Int}
theorem sim_nx (hs : simB l = true) {k : Nat} (hk : k < l.length) : at' l k ≠ nxp l k := by
  unfold simB at hs
  simp only [Bool.and_eq_true, decide_eq_true_eq, Bool.not_eq_true'] at hs
  have h4 := anyN_pre hs.2.2.2 hk
  unfold sbd sbd1 at h4
  simp only [Bool.or_eq_false_iff, decide_eq_false_iff_not] at h4
  exact h4.1.1
/-- a simple ring is not closed -/
theorem sim_seg (hs : simB l = true) : nSeg true l = l.length := by
  have h3 := (sim_bs hs).1
  unfold nSeg
  rw [if_pos rfl, if_neg (by omega)]
  split
  · rename_i hc
    exfalso
    refine sim_nx hs (k := l.length - 1) (by omega) ?_
    rw [nxp_end (by omega)]
    unfold at'
    rw [List.getD_eq_getElem?_getD, List.getD_eq_getElem?_getD, hc]
  · rfl
theorem has_t (h3 : 3 ≤ l.length) : ringHas l p true = true ↔ aon l p l.length = true ∨ xrs l p l.length = true := by
  rw [ringHas_al true h3]
  cases aon l p l.length <;> cases xrs l p l.length <;> simp
/-- no edge of one ring meets one of the other -/
def Apt (l h : List (Int × Int)) : Prop := ∀ i k, i < l.length → k < h.length → gmt (at' l i) (nxp l i) (at' h k) (nxp h k) = false
theorem Apt.symm (a : Apt l h) : Apt h l := fun i k hi hk => by rw [gmt_sym]; exact a k i hk hi
theorem aon_no {n : Nat} (h1 : ∀ k, k < n → gon (at' l k) (nxp l k) p = false) : aon l p n = false := aon_none n fun k hk => by
  show rcOn _ _ _ _ _ _ = false
  rw [← gon_rc]; exact h1 k hk
theorem aon_edge {k n : Nat} (hk : k < n) (hg : gon (at' l k) (nxp l k) p = true) : aon l p n = true := by
  refine aon_mono (k := k + 1) ?_ n (by omega)
  rw [aon]
  have : ron l p k = true := by
    show rcOn _ _ _ _ _ _ = true
    rw [← gon_rc]; exact hg
  rw [this, Bool.or_true]
theorem Apt.off (a : Apt l h) {k : Nat} (hk : k < l.length) : aon h (at' l k) h.length = false := aon_no fun j hj => by
  cases e : gon (at' h j) (nxp h j) (at' l k) with
  | false => rfl
  | true =>
    have := a k j hk hj
    rw [gmt_3 e] at this
    cases this
/-- all corners of a ring are on the same side of another one -/
theorem Apt.side (a : Apt l h) (h0 : 0 < h.length) : ∀ k, k < l.length → xrs h (at' l k) h.length = xrs h (at' l 0) h.length := by
  intro k
  induction k with
  | zero => intro _; rfl
  | succ k ih =>
    intro hk
    rw [← ih (by omega)]
    refine (ring_keep h0 fun j hj => ?_).symm
    have := a k j (by omega) hj
    rw [nxp_mid hk] at this
    exact this
theorem at_of_mem {p : Int × Int} (hp : p ∈ l) : ∃ k, k < l.length ∧ at' l k = p := by
  obtain ⟨k, hk, e⟩ := List.mem_iff_getElem.1 hp
  refine ⟨k, hk, ?_⟩
  unfold at'
  rw [List.getD_eq_getElem?_getD, List.getElem?_eq_getElem hk, e]; rfl
theorem mem_at {k : Nat} (hk : k < l.length) : at' l k ∈ l := List.mem_of_getElem? (at_get hk)
theorem mem_nx {k : Nat} (hk : k < l.length) : nxp l k ∈ l := by
  rcases Nat.lt_or_ge (k + 1) l.length with e | e
  · rw [nxp_mid e]; exact mem_at e
  · rw [nxp_end (by omega)]; exact mem_at (by omega)
/-- a point on an edge of a ring is on the side of another one on which the ring is -/
theorem Apt.edge (a : Apt l h) (h0 : 0 < h.length) {k : Nat} (hk : k < l.length) (hg : gon (at' l k) (nxp l k) p = true) : xrs h p h.length = xrs h (at' l k) h.length ∧ aon h p h.length = false := by
  refine ⟨(ring_keep h0 fun j hj => ?_).symm, aon_no fun j hj => ?_⟩
  · cases e : gmt (at' l k) p (at' h j) (nxp h j) with
    | false => rfl
    | true =>
      have := a k j hk hj
      rw [gmt_sub hg e] at this
      cases this
  · cases e : gon (at' h j) (nxp h j) p with
    | false => rfl
    | true =>
      have := a k j hk hj
      rw [gmt_point hg e] at this
      cases this
end
section
variable {l : List (Int × Int)} {H : List (List (Int × Int))} {p : Int × Int}
/-- what a scene's polygon is -/
structure ScP (l : List (Int × Int)) (H : List (List (Int × Int))) : Prop where
  sim : simB l = true
  hsim : ∀ i, i < H.length → simB (H.getD i []) = true
  out : ∀ i, i < H.length → Apt l (H.getD i [])
  inn : ∀ i, i < H.length → ringHas l (at' (H.getD i []) 0) false = true
  apt : ∀ i j, i < H.length → j < H.length → i ≠ j → Apt (H.getD i []) (H.getD j [])
  off : ∀ i j, i < H.length → j < H.length → i ≠ j → ringHas (H.getD i []) (at' (H.getD j []) 0) false = false
theorem ScP.h3 (S : ScP l H) : 3 ≤ l.length := (sim_bs S.sim).1
theorem ScP.g3 (S : ScP l H) {i : Nat} (hi : i < H.length) : 3 ≤ (H.getD i []).length := (sim_bs (S.hsim i hi)).1
end
end Go.Proofs.YtcoeiimohkofjaaGreat
set_option linter.unusedSimpArgs false
set_option linter.unusedVariables false
/-! Plane geometry: a point on the left of all edges of a simple ring whose corners are is in it; a fan of triangles. -/
namespace PF
section
variable {a b c d p : Int × Int}
theorem up_meet0 {h : Int} (h1 : a.2 ≤ h ∧ h < b.2) (h2 : c.2 ≤ h ∧ h < d.2) (l1 : 0 ≤ gsd a b c) (l2 : 0 ≤ gsd a b d) (l3 : 0 ≤ gsd c d a) (l4 : 0 ≤ gsd c d b) (hca : c.2 ≤ a.2) : gmt a b c d = true := by
  cases hm : gmt a b c d with
  | true => rfl
  | false =>
    exfalso
    obtain ⟨g1, g2, g3, g4, -⟩ := gmt_f hm
    have i1 : (b.2 - a.2) * gsd c d a = (a.2 - c.2) * (gsd a b c - gsd a b d) - (d.2 - c.2) * gsd a b c := by unfold gsd; grind
    have i2 : (b.2 - a.2) * gsd c d b = (b.2 - d.2) * (gsd a b c - gsd a b d) - (d.2 - c.2) * gsd a b d := by unfold gsd; grind
    have i3 : (d.2 - a.2) * gsd c d b + (b.2 - d.2) * gsd c d a = -((d.2 - c.2) * gsd a b d) := by unfold gsd; grind
    have s1 : gsd c d a ≠ 0 := fun hz => by rw [gon_mid (by omega) hz hca (by omega)] at g3; cases g3
    have s2 : b.2 ≤ d.2 → gsd c d b ≠ 0 := fun hh hz => by rw [gon_mid (by omega) hz (by omega) hh] at g4; cases g4
    have t2 : d.2 ≤ b.2 → gsd a b d ≠ 0 := fun hh hz => by rw [gon_mid (by omega) hz (by omega) hh] at g2; cases g2
    generalize gsd a b c = t1 at *
    generalize gsd a b d = t2' at *
    generalize gsd c d a = s1' at *
    generalize gsd c d b = s2' at *
    have k1 := mpp (m := b.2 - a.2) (n := s1') (by omega) (by omega)
    have k2 := mqq (m := d.2 - c.2) (n := t1) (by omega) l1
    have k3 : 0 < t1 - t2' := pos_of_mul (m := a.2 - c.2) (by omega) (by omega)
    rcases Int.le_total b.2 d.2 with g | g
    · have s2 := s2 g
      have k4 := mpp (m := b.2 - a.2) (n := s2') (by omega) (by omega)
      have k5 := mrq (m := b.2 - d.2) (n := t1 - t2') (by omega) (by omega)
      have k6 := mqq (m := d.2 - c.2) (n := t2') (by omega) l2
      omega
    · have t2 := t2 g
      have k4 := mqq (m := d.2 - a.2) (n := s2') (by omega) l4
      have k5 := mqq (m := b.2 - d.2) (n := s1') (by omega) l3
      have k6 := mpp (m := d.2 - c.2) (n := t2') (by omega) (by omega)
      omega
/-- two edges that go up through one height, each on the left of the other, meet -/
theorem up_meet {h : Int} (h1 : a.2 ≤ h ∧ h < b.2) (h2 : c.2 ≤ h ∧ h < d.2) (l1 : 0 ≤ gsd a b c) (l2 : 0 ≤ gsd a b d) (l3 : 0 ≤ gsd c d a) (l4 : 0 ≤ gsd c d b) : gmt a b c d = true := by
  rcases Int.le_total c.2 a.2 with g | g
  · exact up_meet0 h1 h2 l1 l2 l3 l4 g
  · rw [gmt_sym]; exact up_meet0 h2 h1 l3 l4 l1 l2 g
theorem cram1 : gsd a b c * (p.1 - b.1) = gsd a b p * (c.1 - b.1) + gsd b c p * (a.1 - b.1) := by unfold gsd; grind
theorem cram2 : gsd a b c * (p.2 - b.2) = gsd a b p * (c.2 - b.2) + gsd b c p * (a.2 - b.2) := by unfold gsd; grind
/-- a level edge on top -/
theorem top_hor (g1 : 0 ≤ gsd a b p) (g3 : 0 ≤ gsd c d p) (t1 : 0 < gsd a b c) (t2 : 0 < gsd b c d) (ha : a.2 ≤ b.2) (hc : c.2 = b.2) (hd : d.2 ≤ c.2) (hp : p.2 = b.2) : gon b c p = true := by
  have e1 : gsd a b c = (b.2 - a.2) * (b.1 - c.1) := by unfold gsd; rw [hc]; grind
  have e2 : gsd a b p = (b.2 - a.2) * (b.1 - p.1) := by unfold gsd; rw [hp]; grind
  have e3 : gsd b c d = (b.1 - c.1) * (c.2 - d.2) := by unfold gsd; rw [hc]; grind
  have e4 : gsd c d p = (c.2 - d.2) * (p.1 - c.1) := by unfold gsd; rw [hp, hc]; grind
  rw [e1] at t1
  rw [e2] at g1
  rw [e3] at t2
  rw [e4] at g3
  have k1 : 0 < b.1 - c.1 := pos_of_mul (by omega) t1
  have k2 : 0 < b.2 - a.2 := pos_of_mul (m := b.1 - c.1) (by omega) (by rw [Int.mul_comm]; exact t1)
  have k3 : 0 < c.2 - d.2 := pos_of_mul (by omega) t2
  have k4 := sgn_of_mul_pos k2 g1
  have k5 := sgn_of_mul_pos k3 g3
  refine gon_iff.2 ⟨by omega, ?_⟩
  unfold gsd; rw [hp, hc]; simp
end
def pvi (n k : Nat) : Nat := if k = 0 then n - 1 else k - 1
theorem pvi_lt {n k : Nat} (h : k < n) : pvi n k < n := by unfold pvi; split <;> omega
theorem nxi_pvi {n k : Nat} (h : k < n) : nxi n (pvi n k) = k := by
  unfold nxi pvi
  split <;> split <;> omega
theorem nxj_nxi {n k : Nat} (h : k < n) (h3 : 3 ≤ n) : nxj n k = nxi n (nxi n k) := by
  unfold nxj nxi
  split <;> split <;> split <;> omega
end PF
namespace Go.Proofs.YtcoeiimohkofjaaGreat
open Go.RowKit PF JR
section
variable {l : List (Int × Int)} {p P Q : Int × Int}
/-- all corners of a ring are on the left of its edges -/
def Lft (l : List (Int × Int)) : Prop := ∀ k, k < l.length → ∀ q ∈ l, 0 ≤ gsd (at' l k) (nxp l k) q
/-- what is in a ring is on the left of what its corners are on the left of -/
theorem left_has (h3 : 3 ≤ l.length) (hl : ∀ q ∈ l, 0 ≤ gsd P Q q) (hp : ringHas l p true = true) : 0 ≤ gsd P Q p := by
  refine Classical.byContradiction fun hn => ?_
  rcases (has_t h3).1 hp with h | h
  · rw [aon_any, anyN_iff] at h
    obtain ⟨k, hk, e⟩ := h
    exact hn (hp_on (by rw [gon_rc]; exact e) (hl _ (mem_at hk)) (hl _ (mem_nx hk)))
  · have e : xrs l p l.length = false := by
      rw [xrs_xo, xoN_congr (g := fun k => hpf P Q p (at' l k) != hpf P Q p (nxp l k)) fun k hk => by
        show rcIn _ _ _ _ _ _ = _
        rw [← glf_rc]
        exact hp_left (hl _ (mem_at hk)) (hl _ (mem_nx hk)) (by omega)]
      exact xoN_cyc (hpf P Q p) (by omega)
    rw [e] at h; cases h
theorem nxp_nxi (l : List (Int × Int)) (k : Nat) : nxp l k = at' l (nxi l.length k) := rfl
theorem sim_turn (hs : simB l = true) (hL : Lft l) {k : Nat} (hk : k < l.length) : 0 < gsd (at' l k) (nxp l k) (nxp l (nxi l.length k)) := by
  have h3 := (sim_bs hs).1
  have h4 := hL k hk (nxp l (nxi l.length k)) (mem_nx (nxi_lt hk))
  unfold simB at hs
  simp only [Bool.and_eq_true, decide_eq_true_eq, Bool.not_eq_true'] at hs
  have h5 := anyN_pre hs.2.2.2 hk
  unfold sbd sbd1 at h5
  simp only [Bool.or_eq_false_iff, decide_eq_false_iff_not] at h5
  have h6 := h5.1.2
  rw [nxj_nxi hk h3] at h6
  rw [nxp_nxi l (nxi l.length k)] at h4 ⊢
  omega
/-- edges of a simple ring that meet are neighbours -/
theorem sim_meet (hs : simB l = true) {i k : Nat} (hik : i < k) (hk : k < l.length) (hm : gmt (at' l i) (nxp l i) (at' l k) (nxp l k) = true) : k = i + 1 ∨ (i = 0 ∧ k + 1 = l.length) := by
  unfold simB at hs
  simp only [Bool.and_eq_true, decide_eq_true_eq, Bool.not_eq_true'] at hs
  have h5 := anyN_pre hs.2.2.2 (show i < l.length by omega)
  unfold sbd at h5
  rw [Bool.or_eq_false_iff] at h5
  rcases Nat.lt_or_ge k (i + 2) with g | g
  · exact .inl (by omega)
  · have h6 := anyN_pre h5.2 (show k - (i + 2) < l.length - (i + 2) by omega)
    unfold sbd2 at h6
    rw [show i + 2 + (k - (i + 2)) = k by omega, hm, Bool.and_true, Bool.not_eq_false', Bool.and_eq_true, decide_eq_true_iff, decide_eq_true_iff] at h6
    exact .inr h6
/-- **a point on the left of all edges is in the ring** -/
theorem conv_has (hs : simB l = true) (hL : Lft l) (hp : ∀ k, k < l.length → 0 ≤ gsd (at' l k) (nxp l k) p) : ringHas l p true = true := by
  have h3 := (sim_bs hs).1
  rw [has_t h3]
  cases hon : aon l p l.length with
  | true => exact .inl rfl
  | false =>
  right
  have off : ∀ k, k < l.length → gon (at' l k) (nxp l k) p = false := fun k hk => by rw [gon_rc]; exact aon_ron _ hon k hk
  have hup : ∀ k, k < l.length → rin l p k = decide ((at' l k).2 ≤ p.2 ∧ p.2 < (nxp l k).2) := by
    intro k hk
    have g1 := hp k hk
    have g2 := off k hk
    show rcIn _ _ _ _ _ _ = _
    rw [← glf_rc]
    unfold glf
    split
    · rw [gsd_swap]
      exact decide_eq_decide.2 (by omega)
    · refine decide_eq_decide.2 ⟨fun h => ⟨h.1, h.2.1⟩, fun h => ⟨h.1, h.2, ?_⟩⟩
      rcases Int.lt_or_eq_of_le g1 with g | g
      · exact g
      · rw [gon_mid (by omega) g.symm h.1 (by omega)] at g2; cases g2
  have huniq : ∀ i k, i < k → k < l.length → rin l p i = true → rin l p k = true → False := by
    intro i k hik hk hi hk'
    rw [hup i (by omega), decide_eq_true_iff] at hi
    rw [hup k hk, decide_eq_true_iff] at hk'
    have hm := up_meet hi hk' (hL i (by omega) _ (mem_at hk)) (hL i (by omega) _ (mem_nx hk)) (hL k hk _ (mem_at (by omega))) (hL k hk _ (mem_nx (by omega)))
    rcases sim_meet hs hik hk hm with g | ⟨g, g'⟩
    · subst g
      rw [nxp_mid hk] at hi
      omega
    · subst g
      rw [nxp_end g'] at hk'
      omega
  have hex : ∃ k, k < l.length ∧ rin l p k = true := by
    refine Classical.byContradiction fun hno => ?_
    have hnone : ∀ k, k < l.length → ¬ ((at' l k).2 ≤ p.2 ∧ p.2 < (nxp l k).2) := by
      intro k hk h
      exact hno ⟨k, hk, by rw [hup k hk]; exact decide_eq_true h⟩
    have hstep : ∀ i j, i + j < l.length → (at' l i).2 ≤ p.2 → (at' l (i + j)).2 ≤ p.2 := by
      intro i j
      induction j with
      | zero => intro _ h; exact h
      | succ j ih =>
        intro hj h
        have h1 := ih (by omega) h
        have h2 := hnone (i + j) (by omega)
        rw [nxp_mid (by omega)] at h2
        rw [show i + (j + 1) = i + j + 1 by omega]
        omega
    obtain ⟨b1, -, ⟨pb, hpb, eb⟩, -, ⟨pt, hpt, et⟩⟩ := box_spec l (by omega)
    by_cases h0 : (at' l 0).2 ≤ p.2
    · -- all at most as high as p
      have hall : ∀ q ∈ l, q.2 ≤ p.2 := fun q hq => by
        obtain ⟨k, hk, rfl⟩ := at_of_mem hq
        have := hstep 0 k (by omega) h0
        rwa [Nat.zero_add] at this
      obtain ⟨j, hj, rfl⟩ := at_of_mem hpt
      have top : ∀ q ∈ l, q.2 ≤ (at' l j).2 := fun q hq => by have := b1 q hq; omega
      -- a level edge on top
      have hor : ∀ i, i < l.length → (at' l i).2 = (at' l j).2 → (nxp l i).2 = (at' l i).2 → p.2 = (at' l i).2 → False := by
        intro i hi e1 e2 e3
        have q1 := hp (pvi l.length i) (pvi_lt hi)
        have q2 := sim_turn hs hL (pvi_lt hi)
        have q3 := hp (nxi l.length i) (nxi_lt hi)
        have q4 := sim_turn hs hL hi
        rw [nxp_nxi l (pvi l.length i), nxi_pvi hi] at q1 q2
        rw [← nxp_nxi l i] at q3
        have := top_hor q1 q3 q2 q4 (by have := top _ (mem_at (pvi_lt hi)); omega) e2 (by have := top _ (mem_nx (nxi_lt hi)); omega) e3
        rw [off i hi] at this
        cases this
      have q1 := hp (pvi l.length j) (pvi_lt hj)
      have q2 := sim_turn hs hL (pvi_lt hj)
      have q3 := hp j hj
      have hlast : (nxp l (pvi l.length j)) = at' l j := by rw [nxp_nxi, nxi_pvi hj]
      rw [nxp_nxi l (pvi l.length j), nxi_pvi hj] at q1 q2
      have c2 := cram2 (a := at' l (pvi l.length j)) (b := at' l j) (c := nxp l j) (p := p)
      have c1 := cram1 (a := at' l (pvi l.length j)) (b := at' l j) (c := nxp l j) (p := p)
      have t1 := top _ (mem_at (pvi_lt hj))
      have t2 := top _ (mem_nx hj)
      have t3 := hall _ (mem_at hj)
      have k1 := mqr q1 (show (nxp l j).2 - (at' l j).2 ≤ 0 by omega)
      have k2 := mqr q3 (show (at' l (pvi l.length j)).2 - (at' l j).2 ≤ 0 by omega)
      have k3 : p.2 = (at' l j).2 := by
        rcases Int.lt_or_eq_of_le t3 with g | g
        · have := mpp q2 (show 0 < p.2 - (at' l j).2 by omega); omega
        · exact g.symm
      rw [show p.2 - (at' l j).2 = 0 by omega, Int.mul_zero] at c2
      by_cases f1 : (nxp l j).2 = (at' l j).2
      · exact hor j hj rfl f1 k3
      · by_cases f2 : (at' l (pvi l.length j)).2 = (at' l j).2
        · exact hor _ (pvi_lt hj) f2 (by rw [hlast]; exact f2.symm) (by omega)
        · have z1 := (Int.mul_eq_zero.1 (show gsd (at' l (pvi l.length j)) (at' l j) p * ((nxp l j).2 - (at' l j).2) = 0 by omega)).resolve_right (by omega)
          have z2 := (Int.mul_eq_zero.1 (show gsd (at' l j) (nxp l j) p * ((at' l (pvi l.length j)).2 - (at' l j).2) = 0 by omega)).resolve_right (by omega)
          rw [z1, z2, Int.zero_mul, Int.zero_mul] at c1
          have z3 := (Int.mul_eq_zero.1 c1).resolve_left (by omega)
          have : p = at' l j := Prod.ext (by omega) k3
          have := off j hj
          rw [show p = at' l j from Prod.ext (by omega) k3, gon_a] at this
          cases this
    · -- all higher than p
      have hall : ∀ q ∈ l, p.2 < q.2 := fun q hq => by
        obtain ⟨k, hk, rfl⟩ := at_of_mem hq
        rcases Int.lt_or_le p.2 (at' l k).2 with g | g
        · exact g
        · have h1 := hstep k (l.length - 1 - k) (by omega) g
          rw [show k + (l.length - 1 - k) = l.length - 1 by omega] at h1
          have h2 := hnone (l.length - 1) (by omega)
          rw [nxp_end (by omega)] at h2
          omega
      obtain ⟨j, hj, rfl⟩ := at_of_mem hpb
      have q1 := hp (pvi l.length j) (pvi_lt hj)
      have q2 := sim_turn hs hL (pvi_lt hj)
      have q3 := hp j hj
      rw [nxp_nxi l (pvi l.length j), nxi_pvi hj] at q1 q2
      have c2 := cram2 (a := at' l (pvi l.length j)) (b := at' l j) (c := nxp l j) (p := p)
      have t1 := (b1 _ (mem_at (pvi_lt hj))).2.1
      have t2 := (b1 _ (mem_nx hj)).2.1
      have t3 := hall _ (mem_at hj)
      have k1 := mqq q1 (show 0 ≤ (nxp l j).2 - (at' l j).2 by omega)
      have k2 := mqq q3 (show 0 ≤ (at' l (pvi l.length j)).2 - (at' l j).2 by omega)
      have k3 := mpn q2 (show p.2 - (at' l j).2 < 0 by omega)
      omega
  obtain ⟨k0, hk0, e0⟩ := hex
  rw [xrs_xo, xoN_congr (g := fun k => decide (k = k0)) fun k hk => ?_, xoN_one hk0]
  by_cases g : k = k0
  · rw [g, e0, decide_eq_true rfl]
  · rw [decide_eq_false g]
    cases e : rin l p k with
    | false => rfl
    | true =>
      exfalso
      rcases Nat.lt_or_ge k k0 with h | h
      · exact huniq k k0 h hk0 e e0
      · exact huniq k0 k (by omega) hk e0 e
end
end Go.Proofs.YtcoeiimohkofjaaGreat
set_option linter.unusedSimpArgs false
set_option linter.unusedVariables false
/-! spec.polyUp, IsConvexRing: what it says yes to has its corners on the left of its edges (printed by gen/zz.py from zh.walk). -/
namespace Go.Proofs.YtcoeiimohkofjaaGreat
open Go Go.RowKit PF JR
/-- some truth value comes back, of which this is known -/
def BoolQ (P : Bool → Prop) (w : World) (e : Ending) (w' : World) : Prop := ∃ b : Bool, e = .returned (.bool b) ∧ P b ∧ Below w.heap.size w w'
set_option maxRecDepth 100000 in
set_option maxHeartbeats 4000000 in
theorem pup_c (a b c d : Int) (w : World) :
    Calls Tryz.prog 51 #[.agg #[.int .i64 a, .int .i64 b, .int .i64 c, .int .i64 d]] w fun e w' => BoolQ (fun _ => True) w e w' := by
  have st0 := (Blk.nil w).push rfl #[.int .i64 a, .int .i64 b, .int .i64 c, .int .i64 d] 42
  have z0 := st0.cell 0 rfl 0
  have z1 := st0.cell 0 rfl 1
  have z2 := st0.cell 0 rfl 2
  have z3 := st0.cell 0 rfl 3
  simp only [List.getElem?_toArray, List.getElem?_cons_zero, List.getElem?_cons_succ] at z0 z1 z2 z3
  go_enter Tryz.func51, Tryz.ntmps51
  by_cases h1 : b < d
  · have d1 := decide_eq_true h1
    go_wp2
    go_ret
    exact ⟨_, rfl, trivial, st0.hb⟩
  · have d1 := decide_eq_false h1
    by_cases h2 : d = b
    · subst h2
      have d2 : (d == d) = true := by simp
      by_cases h3 : a < c
      · have d3 := decide_eq_true h3
        go_wp2
        go_ret
        exact ⟨_, rfl, trivial, st0.hb⟩
      · have d3 := decide_eq_false h3
        go_wp2
        go_ret
        exact ⟨_, rfl, trivial, st0.hb⟩
    · have d2 : (d == b) = false := by simp [h2]
      go_wp2
      go_ret
      exact ⟨_, rfl, trivial, st0.hb⟩
/-- all corners of a ring are on the left of its segments -/
def LftN (l : List (Int × Int)) (n : Nat) : Prop := ∀ k, k < n → ∀ q ∈ l, 0 ≤ gsd (at' l k) (nxp l k) q
theorem nxiN_mod {n k : Nat} (h : k < n) : Int.tmod ((k : Int) + 1) (n : Int) = (nxi n k : Nat) := nxi_mod h
set_option maxRecDepth 100000 in
set_option maxHeartbeats 16000000 in
theorem icr_c (l : List (Int × Int)) (hl : ∀ p ∈ l, Bs p) (h31 : l.length ≤ 900000000) (v : Value) (w : World) (hv : SlP w v l) :
    Calls Tryz.prog 23 #[v] w fun e w' => BoolQ (fun b => b = true → 3 ≤ nSeg true l ∧ LftN l (nSeg true l)) w e w' := by
  have hb1 : ∀ k, Bs (nxp l k) := fun k => by unfold nxp; exact at_bs hl _
  have hsd := fun (a b p : Int × Int) (ha : Bs a) (hb : Bs b) (hp : Bs p) (u : World) => gsd_c (a := a) (b := b) (p := p) ha hb hp u
  have hped := fun u hu => ped_c l h31 v u hu
  obtain ⟨A, c, rfl, hk⟩ := id hv
  have hS : nSeg true l ≤ 900000000 := by unfold nSeg; split <;> (try split) <;> (try split) <;> omega
  generalize nSeg true l = N at *
  go_enter Tryz.func23, Tryz.ntmps23
  go_wp2_with (go_at_call 50; refine JR.StopY.out ?_)
  refine ⟨?_⟩
  refine (hped _ hv).mono ?_
  rintro e w1 ⟨v', rfl, hE, hbB⟩
  obtain ⟨A', c', rfl, -⟩ := id hE
  clear hped
  by_cases h3 : N < 3
  · have d3 : decide ((N : Int) < 3) = true := decide_eq_true (by omega)
    have h3' : (N : Int) < 3 := by omega
    go_wp2
    go_ret
    exact ⟨false, rfl, fun h => Bool.noConfusion h, hbB⟩
  have h3' : ¬ (N : Int) < 3 := by omega
  have d3 : decide ((N : Int) < 3) = false := decide_eq_false h3'
  generalize hnl : l.length = nl at *
  go_wp2
  go_loopw [4, 5, 18] (fun ar ro i wr => ∃ (k : Nat) (x y : Int), k ≤ N ∧ ar = .int .i64 x ∧ ro = .int .i64 y ∧ i = .int .i64 k ∧ LftN l k ∧ Below w1.heap.size w1 wr) (fun _ _ i _ => N - (intOf i).toNat)
  case atStart => exact ⟨0, 0, 0, Nat.zero_le _, rfl, rfl, rfl, fun k hk => absurd hk (Nat.not_lt_zero _), Below.refl _ _⟩
  case round =>
    obtain ⟨k, x, y, hkl, rfl, rfl, rfl, hL, hB⟩ := hrel
    have hBw := hbB.trans (hB.mono hbB.size)
    rcases Nat.lt_or_ge k N with hlt | hge
    · have hE1 := hE.below hB
      obtain ⟨A2, c2, hAc, hkE⟩ := id hE1
      cases hAc
      obtain ⟨bb, rfl, g1, g2, g3, g4⟩ := hkE k hlt
      obtain ⟨bb', eb, n1, n2, n3, n4⟩ := hkE (nxi N k) (nxi_lt hlt)
      obtain ⟨bb0, eb0, f1, f2, -, -⟩ := hkE 0 (by omega)
      cases eb
      cases eb0
      have hmod := nxiN_mod hlt
      have hjl := nxi_lt hlt
      generalize nxi N k = jn at *
      simp only [Nat.zero_add, Nat.zero_mul] at g1 g2 g3 g4 n1 n2 n3 n4 f1 f2
      have hq1 := fun u => hsd (at' l k) (nxp l k) (nxp l jn) (at_bs hl _) (hb1 _) (hb1 _) u
      have hq2 := fun q hq u => hsd (at' l k) (nxp l k) (at' l q) (at_bs hl _) (hb1 _) hq u
      have hq3 := fun u => hsd (at' l 0) (at' l k) (nxp l k) (at_bs hl _) (at_bs hl _) (hb1 _) u
      have hlt' : (k : Int) < (N : Int) := by omega
      have hjl' : (jn : Int) < (N : Int) := by omega
      have hN0 : ¬ N = 0 := by omega
      have hN0' : ¬ (N : Int) = 0 := by omega
      have h0N : (0 : Int) < (N : Int) := by omega
      have hw1 : Go.IntKind.i64.wrap ((k : Int) + 1) = (k : Int) + 1 := wrapS (by omega)
      have hw2 : Go.IntKind.i64.wrap ((jn : Nat) : Int) = ((jn : Nat) : Int) := wrapS (by omega)
      obtain ⟨pa, hpa⟩ : ∃ x, at' l k = x := ⟨_, rfl⟩
      obtain ⟨pb, hpb⟩ : ∃ x, nxp l k = x := ⟨_, rfl⟩
      obtain ⟨pc, hpc⟩ : ∃ x, at' l jn = x := ⟨_, rfl⟩
      obtain ⟨pd, hpd⟩ : ∃ x, nxp l jn = x := ⟨_, rfl⟩
      obtain ⟨pz, hpz⟩ : ∃ x, at' l 0 = x := ⟨_, rfl⟩
      simp only [hpa, hpb, hpc, hpd, hpz] at g1 g2 g3 g4 n1 n2 n3 n4 f1 f2 hq1 hq2 hq3
      have hlstep : (∀ q ∈ l, 0 ≤ gsd pa pb q) → LftN l (k + 1) := by
        intro h j hj q hq
        rcases Nat.lt_or_ge j k with g | g
        · exact hL j g q hq
        · obtain rfl : j = k := by omega
          rw [hpa, hpb]; exact h q hq
      clear hpa hpb hpc hpd hpz
      -- the two edges, laid by
      have st2 := ((Blk.nil wr).push rfl #[.int .i64 pa.1, .int .i64 pa.2, .int .i64 pb.1, .int .i64 pb.2] 42).push (b := wr.heap.size + 1) (by simp) #[.int .i64 pc.1, .int .i64 pc.2, .int .i64 pd.1, .int .i64 pd.2] 42
      have st1 := (Blk.nil wr).push rfl #[.int .i64 pa.1, .int .i64 pa.2, .int .i64 pb.1, .int .i64 pb.2] 42
      have n1' := (st1.hb.cell (World.block_lt_of_cell? _ _ n1)).trans n1
      have n2' := (st1.hb.cell (World.block_lt_of_cell? _ _ n2)).trans n2
      have n3' := (st1.hb.cell (World.block_lt_of_cell? _ _ n3)).trans n3
      have n4' := (st1.hb.cell (World.block_lt_of_cell? _ _ n4)).trans n4
      have f1' := (st2.hb.cell (World.block_lt_of_cell? _ _ f1)).trans f1
      have f2' := (st2.hb.cell (World.block_lt_of_cell? _ _ f2)).trans f2
      go_upto_region 9 with (fail)
      clear n1 n2 n3 n4 n1' n2' n3' n4' g1 g2 g3 g4 f1 f2 st1
      have hB2 := hBw.trans (st2.hb.mono hBw.size)
      have x0 := st2.cell 1 rfl 0
      have x1 := st2.cell 1 rfl 1
      have x2 := st2.cell 1 rfl 2
      have x3 := st2.cell 1 rfl 3
      simp only [List.getElem?_toArray, List.getElem?_cons_zero, List.getElem?_cons_succ] at x0 x1 x2 x3
      have y0 := st2.cell 0 rfl 0
      have y1 := st2.cell 0 rfl 1
      have y2 := st2.cell 0 rfl 2
      have y3 := st2.cell 0 rfl 3
      simp only [List.getElem?_toArray, List.getElem?_cons_zero, List.getElem?_cons_succ] at y0 y1 y2 y3
      by_cases hpe : pa = pb
      · have q9 := fun u => eqGP (p := pa) (q := pb) (b := true) (decide_eq_true hpe) u
        clear hpe hq1 hq2 hq3 hlstep
        go_wp2
        go_ret
        exact ⟨false, rfl, fun h => Bool.noConfusion h, hB2⟩
      have q9 := fun u => eqGP (p := pa) (q := pb) (b := false) (decide_eq_false hpe) u
      clear hpe
      go_wp2_with (go_at_call 41; refine JR.StopY.out ?_)
      refine ⟨?_⟩
      refine (hq1 _).mono ?_
      rintro e w3 ⟨rfl, hb⟩
      have st3 := st2.ext hb
      have hf1 := (hb.cell (World.block_lt_of_cell? _ _ f1')).trans f1'
      have hf2 := (hb.cell (World.block_lt_of_cell? _ _ f2')).trans f2'
      have hB3 := hB2.trans (hb.mono hB2.size)
      clear f1' f2' hb st2 q9 hq1 hB2 x0 x1 x2 x3 y0 y1 y2 y3
      obtain ⟨sg, hsg⟩ : ∃ z, gsd pa pb pd = z := ⟨_, rfl⟩
      rw [hsg]
      by_cases hs0 : sg < (0 : Int)
      · have ds := decide_eq_true hs0
        go_wp2
        go_ret
        exact ⟨false, rfl, fun h => Bool.noConfusion h, hB3⟩
      have ds := decide_eq_false hs0
      generalize hwr0 : wr = w0 at *
      generalize hb7 : w0.heap.size = b7 at *
      go_wp2
      clear ds hs0 hsg
      go_loopw [48] (fun i wr => ∃ j : Nat, j ≤ nl ∧ i = .int .i64 j ∧ (∀ q, q < j → 0 ≤ gsd pa pb (at' l q)) ∧ Blk w0 wr [(b7 + 1, #[.int .i64 pc.1, .int .i64 pc.2, .int .i64 pd.1, .int .i64 pd.2], 42), (b7, #[.int .i64 pa.1, .int .i64 pa.2, .int .i64 pb.1, .int .i64 pb.2], 42)] ∧ Below w3.heap.size w3 wr) (fun i _ => nl - (intOf i).toNat)
      case atStart => exact ⟨0, Nat.zero_le _, rfl, fun q hq => absurd hq (Nat.not_lt_zero _), st3, Below.refl _ _⟩
      case round =>
        clear st3
        obtain ⟨j, hjl2, rfl, hall, st, hB4⟩ := hrel
        have hB5 := hB3.trans (hB4.mono hB3.size)
        rcases Nat.lt_or_ge j nl with hlt2 | hge2
        · obtain ⟨bb2, off2, rfl, m1, m2⟩ := hk j _ (at_get (by omega))
          have m1 := (hB5.cell (World.block_lt_of_cell? _ _ m1)).trans m1
          have m2 := (hB5.cell (World.block_lt_of_cell? _ _ m2)).trans m2
          have hq4 := fun u => hq2 j (at_bs hl _) u
          obtain ⟨pq, hpq⟩ : ∃ x, at' l j = x := ⟨_, rfl⟩
          simp only [hpq] at m1 m2 hq4
          have hjn : (j : Int) < (nl : Int) := by omega
          have st5 := st.push (b := wr.heap.size) rfl #[.int .i64 pq.1, .int .i64 pq.2] 27
          have hB6 := hB4.alloc hB4.size (.cells #[.int .i64 pq.1, .int .i64 pq.2] 27)
          have hB7 := hB5.alloc hB5.size (.cells #[.int .i64 pq.1, .int .i64 pq.2] 27)
          have x0 := st5.cell 2 rfl 0
          have x1 := st5.cell 2 rfl 1
          have x2 := st5.cell 2 rfl 2
          have x3 := st5.cell 2 rfl 3
          simp only [List.getElem?_toArray, List.getElem?_cons_zero, List.getElem?_cons_succ] at x0 x1 x2 x3
          have y0 := st5.cell 0 rfl 0
          have y1 := st5.cell 0 rfl 1
          simp only [List.getElem?_toArray, List.getElem?_cons_zero, List.getElem?_cons_succ] at y0 y1
          clear st hq2 hq3 hlstep
          go_wp2_with (go_at_call 41; refine JR.StopY.out ?_)
          refine ⟨?_⟩
          refine (hq4 _).mono ?_
          rintro e w5 ⟨rfl, hb⟩
          have st6 := (st5.ext hb).tail
          have hB8 := hB6.trans (hb.mono hB6.size)
          have hB9 := hB7.trans (hb.mono hB7.size)
          clear hb st5 hB6 hB7 hq4 m1 m2 x0 x1 x2 x3 y0 y1
          obtain ⟨sg2, hsg2⟩ : ∃ z, gsd pa pb pq = z := ⟨_, rfl⟩
          rw [hsg2]
          by_cases hs0 : sg2 < (0 : Int)
          · have ds := decide_eq_true hs0
            go_wp2
            go_ret
            exact ⟨false, rfl, fun h => Bool.noConfusion h, hB9⟩
          have ds := decide_eq_false hs0
          go_wp2
          go_roundw
          case rel =>
            refine ⟨j + 1, by omega, by go_num, fun q hq => ?_, st6, hB8⟩
            rcases Nat.lt_or_ge q j with g | g
            · exact hall q g
            · obtain rfl : q = j := by omega
              rw [hpq, hsg2]; omega
          case measure => simp [intOf]; omega
        · obtain rfl : j = nl := by omega
          have hLk := hlstep fun q hq => by
            obtain ⟨i9, hi9, rfl⟩ := at_of_mem hq
            exact hall i9 (by omega)
          have hf3 := (hB4.cell (World.block_lt_of_cell? _ _ hf1)).trans hf1
          have hf4 := (hB4.cell (World.block_lt_of_cell? _ _ hf2)).trans hf2
          clear hf1 hf2
          clear hq2 hlstep hall
          go_upto_region 17 with (fail)
          refine wp_region_K [] [.val (.int .i64 x), .val (.slice (some ⟨bb, 0, none⟩) N c'), .val (.pointer (some ⟨bb, 0, none⟩)), .val (.pointer (some ⟨bb, 0, none⟩)), .val (.agg #[.int .i64 pz.1, .int .i64 pz.2]), .val (.pointer (some ⟨b7, 0, none⟩)), .val (.agg #[.int .i64 pa.1, .int .i64 pa.2]), .val (.pointer (some ⟨b7, 2, none⟩)), .val (.agg #[.int .i64 pb.1, .int .i64 pb.2]), .val (.int .i64 (gsd pz pa pb)), .val (.int .i64 (Go.IntKind.i64.wrap (x + gsd pz pa pb))), .val (.int .i64 (Go.IntKind.i64.wrap (x + gsd pz pa pb)))]
            [[.ini 4], [.ini 3], [.frm 1 61], [.frm 2 62], [.frm 3 63], [.ini 7], [.frm 5 65], [.ini 7], [.frm 7 67], [.frm 4 64, .frm 6 66, .frm 8 68], [.frm 0 60, .frm 9 69], [.frm 10 70]]
            mixed (by kernel_rfl) (by kernel_rfl) (allPre_of ⟨trivial, trivial, trivial, trivial, trivial, trivial, trivial, trivial, trivial, trivial, trivial, trivial, trivial⟩)
            ⟨OpOk.quiet rfl ?_, OpOk.quiet rfl ?_, OpOk.quiet rfl ?_, OpOk.quiet rfl ?_, OpOk.quiet rfl ?_, OpOk.quiet rfl ?_, OpOk.quiet rfl ?_, OpOk.quiet rfl ?_, OpOk.quiet rfl ?_, OpOk.call rfl ?_, OpOk.quiet rfl ?_, OpOk.quiet rfl ?_, trivial⟩ ?_
          iterate 4
            · intro a_ u _ hf
              simp [facts, Need.fact, Ent.val, Act.eval] at hf
              go_simp
          · intro a_ u hG hf
            simp [facts, Need.fact, Ent.val, Act.eval] at hf
            have y0 := (hG.below.cell (World.block_lt_of_cell? _ _ hf3)).trans hf3
            have y1 := (hG.below.cell (World.block_lt_of_cell? _ _ hf4)).trans hf4
            go_simp
          · intro a_ u _ hf
            simp [facts, Need.fact, Ent.val, Act.eval] at hf
            go_simp
          · intro a_ u hG hf
            simp [facts, Need.fact, Ent.val, Act.eval] at hf
            have s9 := st.keep0 hG
            have y0 := s9.cell 1 rfl 0
            have y1 := s9.cell 1 rfl 1
            have y2 := s9.cell 1 rfl 2
            have y3 := s9.cell 1 rfl 3
            simp only [List.getElem?_toArray, List.getElem?_cons_zero, List.getElem?_cons_succ] at y0 y1 y2 y3
            go_simp
          · intro a_ u _ hf
            simp [facts, Need.fact, Ent.val, Act.eval] at hf
            go_simp
          · intro a_ u hG hf
            simp [facts, Need.fact, Ent.val, Act.eval] at hf
            have s9 := st.keep0 hG
            have y0 := s9.cell 1 rfl 0
            have y1 := s9.cell 1 rfl 1
            have y2 := s9.cell 1 rfl 2
            have y3 := s9.cell 1 rfl 3
            simp only [List.getElem?_toArray, List.getElem?_cons_zero, List.getElem?_cons_succ] at y0 y1 y2 y3
            go_simp
          · intro a_ u hG hf
            simp [facts, Need.fact, Ent.val, Act.eval] at hf
            refine ⟨_, _, by go_simp, (hq3 u).mono ?_⟩
            rintro e w' ⟨rfl, hb⟩
            exact ⟨_, rfl, hb, rfl⟩
          iterate 2
            · intro a_ u _ hf
              simp [facts, Need.fact, Ent.val, Act.eval] at hf
              go_simp
          intro u lw hw wc2 hKp hE hI hD
          simp only [allE, Ent.val] at hE
          obtain ⟨u0, u1, u2, u3, u4, u5, u6, u7, u8, u9, u10, u11, -⟩ := hE
          simp only [Nat.reduceAdd] at u0 u1 u2 u3 u4 u5 u6 u7 u8 u9 u10 u11
          simp only [allPut, Act.put, Nat.reduceAdd, u0, u1, u2, u3, u4, u5, u6, u7, u8, u9, u10, u11]
          try simp only [List.setIfInBounds_toArray, List.set_cons_zero, List.set_cons_succ]
          clear hI hD u0 u1 u2 u3 u4 u5 u6 u7 u8 u9 u10 u11
          have st7 := st.keep0 hKp
          clear st hKp hf3 hf4 hq3
          generalize Go.IntKind.i64.wrap (x + gsd pz pa pb) = x9
          have x0 := st7.cell 1 rfl 0
          have x1 := st7.cell 1 rfl 1
          have x2 := st7.cell 1 rfl 2
          have x3 := st7.cell 1 rfl 3
          simp only [List.getElem?_toArray, List.getElem?_cons_zero, List.getElem?_cons_succ] at x0 x1 x2 x3
          have y0 := st7.cell 0 rfl 0
          have y1 := st7.cell 0 rfl 1
          have y2 := st7.cell 0 rfl 2
          have y3 := st7.cell 0 rfl 3
          simp only [List.getElem?_toArray, List.getElem?_cons_zero, List.getElem?_cons_succ] at y0 y1 y2 y3
          go_wp2_with (go_at_call 51; refine JR.StopY.out ?_)
          refine ⟨?_⟩
          refine (pup_c _ _ _ _ _).mono ?_
          rintro e w8 ⟨q, rfl, -, hb⟩
          have st8 := st7.ext hb
          clear hb st7 x0 x1 x2 x3 y0 y1 y2 y3
          cases q with
          | true =>
            go_wp2
            go_roundw
            case rel => exact ⟨k + 1, _, _, by omega, rfl, rfl, by go_num, hLk, hB.trans (st8.hb.mono hB.size)⟩
            case measure => simp [intOf]; omega
          | false =>
            have y0 := st8.cell 0 rfl 0
            have y1 := st8.cell 0 rfl 1
            have y2 := st8.cell 0 rfl 2
            have y3 := st8.cell 0 rfl 3
            simp only [List.getElem?_toArray, List.getElem?_cons_zero, List.getElem?_cons_succ] at y0 y1 y2 y3
            go_wp2_with (go_at_call 51; refine JR.StopY.out ?_)
            refine ⟨?_⟩
            refine (pup_c _ _ _ _ _).mono ?_
            rintro e w9 ⟨q, rfl, -, hb⟩
            have st9 := st8.ext hb
            clear hb st8 y0 y1 y2 y3
            cases q with
            | true =>
              go_wp2
              go_roundw
              case rel => exact ⟨k + 1, _, _, by omega, rfl, rfl, by go_num, hLk, hB.trans (st9.hb.mono hB.size)⟩
              case measure => simp [intOf]; omega
            | false =>
              go_wp2
              go_roundw
              case rel => exact ⟨k + 1, _, _, by omega, rfl, rfl, by go_num, hLk, hB.trans (st9.hb.mono hB.size)⟩
              case measure => simp [intOf]; omega
    · obtain rfl : k = N := by omega
      by_cases hx : (0 : Int) < x
      · have dx := decide_eq_true hx
        by_cases hy : y = 1
        · have dy : (y == 1) = true := by simp [hy]
          go_wp2
          go_ret
          exact ⟨true, rfl, fun _ => ⟨by omega, hL⟩, hBw⟩
        · have dy : (y == 1) = false := by simp [hy]
          go_wp2
          go_ret
          exact ⟨false, rfl, fun h => Bool.noConfusion h, hBw⟩
      · have dx := decide_eq_false hx
        go_wp2
        go_ret
        exact ⟨false, rfl, fun h => Bool.noConfusion h, hBw⟩
end Go.Proofs.YtcoeiimohkofjaaGreat
set_option linter.unusedSimpArgs false
set_option linter.unusedVariables false
/-! Convex polygons and rectangles: what contains a thing contains what that contains. -/
namespace Go.Proofs.YtcoeiimohkofjaaGreat
open Go.RowKit PF JR
section
variable {l m : List (Int × Int)} {p : Int × Int}
theorem zcr_gsd (a b c : Int × Int) : zcr a b c = gsd a b c := by unfold zcr gsd; grind
theorem cstep_pos {s : Bool × Int} {z : Int} (h1 : s.1 = false) (h2 : 0 ≤ s.2) (hz : 0 ≤ z) : (cstep s z).1 = false ∧ 0 ≤ (cstep s z).2 := by
  unfold cstep
  rw [h1, if_neg (by decide)]
  split
  · refine ⟨rfl, ?_⟩
    simp only
    split
    · omega
    · split <;> omega
  · rw [if_neg (by omega)]
    split
    · exact ⟨decide_eq_false (by omega), h2⟩
    · exact ⟨rfl, h2⟩
/-- a convex ring is convex -/
theorem conv_ppV (hs : simB l = true) (hL : Lft l) : ppV true l = true := by
  have h3 := (sim_bs hs).1
  have key : ∀ k, k ≤ l.length → (cvs l k).1 = false ∧ 0 ≤ (cvs l k).2 := by
    intro k
    induction k with
    | zero => intro _; exact ⟨rfl, Int.le_refl _⟩
    | succ k ih =>
      intro hk
      obtain ⟨h1, h2⟩ := ih (by omega)
      refine cstep_pos h1 h2 ?_
      rw [zcr_gsd]
      have e1 : nx1 l k = nxp l k := by
        unfold nx1 nxp
        by_cases h : k + 1 = l.length
        · rw [if_pos h, if_pos (by omega)]
        · rw [if_neg h, if_neg (by omega)]
      rw [e1]
      refine hL k (by omega) _ ?_
      unfold nx2
      split
      · exact mem_at (by omega)
      · split
        · exact mem_at (by omega)
        · exact mem_at (by omega)
  unfold ppV tooS
  rw [if_neg (by simp; try omega), (key _ (Nat.le_refl _)).1]
  rfl
theorem allN_iff {f : Nat → Bool} {n : Nat} : allN f n = true ↔ ∀ k, k < n → f k = true := by
  unfold allN
  constructor
  · intro h k hk
    cases e : f k with
    | true => rfl
    | false => rw [anyN_hit hk (by rw [e]; rfl)] at h; cases h
  · intro h
    rw [anyN_none fun k hk => by rw [h k hk]; rfl]
    rfl
theorem ppB3 (h3 : 3 ≤ l.length) : ppB true l = box l := by unfold ppB tooS; rw [if_neg (by simp; try omega)]
theorem bc_iff (m3 : 3 ≤ m.length) {B : Int × Int × Int × Int} : bcB B (ppB true m) = true ↔ ∀ q ∈ m, inB B q = true := by
  rw [ppB3 m3]
  obtain ⟨hb, ⟨p1, h1, e1⟩, ⟨p2, h2, e2⟩, ⟨p3, h3, e3⟩, ⟨p4, h4, e4⟩⟩ := box_spec m (by omega)
  unfold bcB
  rw [decide_eq_true_iff]
  constructor
  · intro h q hq
    have := hb q hq
    exact decide_eq_true (by omega)
  · intro h
    have k1 := of_decide_eq_true (h _ h1)
    have k2 := of_decide_eq_true (h _ h2)
    have k3 := of_decide_eq_true (h _ h3)
    have k4 := of_decide_eq_true (h _ h4)
    omega
theorem has_in (h : ringHas l p true = true) : inB (ppB true l) p = true := by
  unfold ringHas at h
  rw [Bool.and_eq_true] at h
  exact h.1
theorem rch_iff (m3 : 3 ≤ m.length) : rchV l true m = true ↔ ∀ q ∈ m, ringHas l q true = true := by
  unfold rchV
  rw [Bool.and_eq_true, allN_iff, bc_iff m3]
  constructor
  · rintro ⟨-, h⟩ q hq
    obtain ⟨k, hk, rfl⟩ := at_of_mem hq
    exact h k hk
  · exact fun h => ⟨fun q hq => has_in (h q hq), fun k hk => h _ (mem_at hk)⟩
/-- a convex polygon, a rectangle -/
def Cv (K : Int) (l : List (Int × Int)) : Prop := (K = 3 ∧ simB l = true ∧ Lft l) ∨ (K = 1 ∧ ∃ a b c d, l = [(a, b), (c, d)] ∧ a < c ∧ b < d)
def cor (K : Int) (l : List (Int × Int)) : List (Int × Int) := if K = 3 then l else crn (at' l 0).1 (at' l 0).2 (at' l 1).1 (at' l 1).2
def hasK (K : Int) (l : List (Int × Int)) (p : Int × Int) : Bool := if K = 3 then ringHas l p true else inB ((at' l 0).1, (at' l 0).2, (at' l 1).1, (at' l 1).2) p
theorem mem_crn {a b c d : Int} {q : Int × Int} : q ∈ crn a b c d ↔ q = (a, b) ∨ q = (c, b) ∨ q = (c, d) ∨ q = (a, d) := by simp [crn]
theorem mem_rl {a b c d : Int} {q : Int × Int} : q ∈ rl a b c d ↔ q ∈ crn a b c d := by
  rw [mem_crn]
  simp only [rl, List.mem_cons, List.not_mem_nil, or_false]
  constructor
  · rintro (h | h | h | h | h)
    · exact .inl h
    · exact .inr (.inl h)
    · exact .inr (.inr (.inl h))
    · exact .inr (.inr (.inr h))
    · exact .inl h
  · rintro (h | h | h | h)
    · exact .inl h
    · exact .inr (.inl h)
    · exact .inr (.inr (.inl h))
    · exact .inr (.inr (.inr (.inl h)))
/-- one contains the other just if it contains its corners -/
theorem hd_iff {K J : Int} (hl : Cv K l) (hm : Cv J m) : hdS K l [] J m [] = true ↔ ∀ q ∈ cor J m, hasK K l q = true := by
  rcases hl with ⟨rfl, hs, hL⟩ | ⟨rfl, a, b, c, d, rfl, h1, h2⟩
  · rcases hm with ⟨rfl, ms, mL⟩ | ⟨rfl, a', b', c', d', rfl, g1, g2⟩
    · exact rch_iff (sim_bs ms).1
    · show rchV l true (rl a' b' c' d') = true ↔ _
      rw [rch_iff (by simp [rl])]
      constructor
      · exact fun h q hq => h q (mem_rl.2 hq)
      · exact fun h q hq => h q (mem_rl.1 hq)
  · rcases hm with ⟨rfl, ms, mL⟩ | ⟨rfl, a', b', c', d', rfl, g1, g2⟩
    · exact bc_iff (sim_bs ms).1
    · show bcB (a, b, c, d) (a', b', c', d') = true ↔ ∀ q ∈ crn a' b' c' d', inB (a, b, c, d) q = true
      unfold bcB
      rw [decide_eq_true_iff]
      constructor
      · intro h q hq
        rcases mem_crn.1 hq with e | e | e | e <;> subst e <;> exact decide_eq_true (by simp only at h ⊢; omega)
      · intro h
        have k1 := of_decide_eq_true (h (a', b') (mem_crn.2 (.inl rfl)))
        have k2 := of_decide_eq_true (h (c', d') (mem_crn.2 (.inr (.inr (.inl rfl)))))
        simp only at k1 k2 ⊢
        omega
/-- what is in a thing is where its corners are: on the left of a line -/
theorem left_K {K : Int} (hl : Cv K l) {P Q : Int × Int} (hc : ∀ q ∈ cor K l, 0 ≤ gsd P Q q) (hp : hasK K l p = true) : 0 ≤ gsd P Q p := by
  rcases hl with ⟨rfl, hs, hL⟩ | ⟨rfl, a, b, c, d, rfl, h1, h2⟩
  · exact left_has (sim_bs hs).1 hc hp
  · have k := of_decide_eq_true (show inB (a, b, c, d) p = true from hp)
    obtain ⟨x, y⟩ := p
    simp only at k
    have c1 := hc (a, b) (mem_crn.2 (.inl rfl))
    have c2 := hc (c, b) (mem_crn.2 (.inr (.inl rfl)))
    have c3 := hc (c, d) (mem_crn.2 (.inr (.inr (.inl rfl))))
    have c4 := hc (a, d) (mem_crn.2 (.inr (.inr (.inr rfl))))
    have e1 : gon (a, b) (a, d) (a, y) = true := gon_iff.2 ⟨by simp only; omega, by unfold gsd; simp⟩
    have e2 : gon (c, b) (c, d) (c, y) = true := gon_iff.2 ⟨by simp only; omega, by unfold gsd; simp⟩
    have e3 : gon (a, y) (c, y) (x, y) = true := gon_iff.2 ⟨by simp only; omega, by unfold gsd; simp⟩
    exact hp_on e3 (hp_on e1 c1 c4) (hp_on e2 c2 c3)
/-- .. within a rectangle -/
theorem box_K {K : Int} (hl : Cv K l) {B : Int × Int × Int × Int} (hc : ∀ q ∈ cor K l, inB B q = true) (hp : hasK K l p = true) : inB B p = true := by
  rcases hl with ⟨rfl, hs, hL⟩ | ⟨rfl, a, b, c, d, rfl, h1, h2⟩
  · have k1 := of_decide_eq_true ((bc_iff (sim_bs hs).1).2 hc)
    have k2 := of_decide_eq_true (has_in hp)
    exact decide_eq_true (by omega)
  · have k1 := of_decide_eq_true (hc (a, b) (mem_crn.2 (.inl rfl)))
    have k2 := of_decide_eq_true (hc (c, d) (mem_crn.2 (.inr (.inr (.inl rfl)))))
    have k3 : inB (a, b, c, d) p = true := hp
    have k3 := of_decide_eq_true k3
    simp only at k1 k2 k3
    exact decide_eq_true (by omega)
/-- **containing leads on** -/
theorem hd_trans {K J I : Int} {n : List (Int × Int)} (hl : Cv K l) (hm : Cv J m) (hn : Cv I n) (h1 : hdS K l [] J m [] = true) (h2 : hdS J m [] I n [] = true) : hdS K l [] I n [] = true := by
  rw [hd_iff hl hm] at h1
  rw [hd_iff hm hn] at h2
  rw [hd_iff hl hn]
  intro q hq
  have hq2 := h2 q hq
  rcases hl with ⟨rfl, hs, hL⟩ | ⟨rfl, a, b, c, d, rfl, g1, g2⟩
  · exact conv_has hs hL fun k hk => left_K hm (fun r hr => left_has (sim_bs hs).1 (hL k hk) (h1 r hr)) hq2
  · exact box_K hm h1 hq2
theorem hd_self {K : Int} (hl : Cv K l) : hdS K l [] K l [] = true := by
  rw [hd_iff hl hl]
  rcases hl with ⟨rfl, hs, hL⟩ | ⟨rfl, a, b, c, d, rfl, h1, h2⟩
  · intro q hq
    obtain ⟨k, hk, rfl⟩ := at_of_mem hq
    exact (has_t (sim_bs hs).1).2 (.inl (aon_edge hk (gon_a _ _)))
  · intro q hq
    show inB (a, b, c, d) q = true
    have hq : q ∈ crn a b c d := hq
    rcases mem_crn.1 hq with e | e | e | e <;> subst e <;> exact decide_eq_true (by simp only; omega)
end
end Go.Proofs.YtcoeiimohkofjaaGreat
set_option linter.unusedSimpArgs false
set_option linter.unusedVariables false
/-! FnSceneChain: the walk (printed by gen/zz.py from zk.walk). -/
namespace JR
open Go Go.RowKit
/-- a slice of four shapes, each of a slot -/
def ag3 : Value → List Value
  | .agg cs => cs.toList
  | v => [v]
def four (a : Act) (t1 t2 t3 t4 : Nat) : Array Value := (ag3 (a.eval (.tmp t1)) ++ ag3 (a.eval (.tmp t2)) ++ ag3 (a.eval (.tmp t3)) ++ ag3 (a.eval (.tmp t4))).toArray
def Ent.four (T : TypeId) (t1 t2 t3 t4 : Nat) : Ent where
  E := fun v l h a w => ∃ b, v = .slice (some ⟨b, 0, none⟩) 4 4 ∧ l ≤ b ∧ b < h ∧ w.heap[b]? = some (.cells (JR.four a t1 t2 t3 t4) T (0, 0))
  sl := [t1, t2, t3, t4]
  old := []
  still := false
  news := false
  hsl := fun _ _ _ _ _ _ h ⟨b, h1, h2, h3, h4⟩ => ⟨b, h1, h2, h3, by unfold JR.four; rw [← h t1 (by simp), ← h t2 (by simp), ← h t3 (by simp), ← h t4 (by simp)]; exact h4⟩
  hext := fun _ _ _ _ _ _ hs e ⟨b, h1, h2, h3, h4⟩ => ⟨b, h1, h2, h3, (e.block b (by omega)).trans h4⟩
  hstill := fun h => Bool.noConfusion h
  hnews := fun h => Bool.noConfusion h
  hrow := fun _ _ _ _ _ _ _ hb _ _ ⟨b', h1, h2, h3, h4⟩ => ⟨b', h1, h2, h3, (setRow_other (by omega)).trans h4⟩
  hpext := fun _ _ _ h => h
  hprow := fun _ _ _ _ h => h
end JR
namespace Go.Proofs.YtcoeiimohkofjaaGreat
open Go Go.RowKit PF JR
set_option maxRecDepth 100000 in
theorem scRc_r (a b c d : Int) (w : World) :
    Calls Tryz.prog 26 #[.agg #[.int .i64 a, .int .i64 b, .int .i64 c, .int .i64 d]] w fun e w' => ∃ v', e = .returned (.agg #[.int .i64 1, v', .slice none 0 0]) ∧ SlR w.heap.size w'.heap.size w' v' [(a, b), (c, d)] ∧ Below w.heap.size w w' := by
  have st0 := ((Blk.nil w).push rfl #[.int .i64 a, .int .i64 b, .int .i64 c, .int .i64 d] 42).push (b := w.heap.size + 1) (by simp) #[.int .i64 0, .slice none 0 0, .slice none 0 0] 34
  have hv := SlP_arr (p := (a, b)) (q := (c, d)) (st0.known 1 _ rfl) 2
  go_enter Tryz.func26, Tryz.ntmps26
  go_wp2_with (go_at_call 42; refine JR.StopY.out ?_)
  refine ⟨?_⟩
  refine (scp_n [(a, b), (c, d)] (by simp) _ _ hv).mono ?_
  rintro e w1 ⟨v', rfl, hS, hb⟩
  have st1 := st0.ext hb
  have hSR := hS
  obtain ⟨A', c', rfl, -⟩ := id hS
  clear hb st0 hv
  have x0 := st1.cell 0 rfl 0
  have x1 := st1.cell 0 rfl 1
  have x2 := st1.cell 0 rfl 2
  have xf := fun o => st1.frozen 0 rfl o
  simp only [List.getElem?_toArray, List.getElem?_cons_zero, List.getElem?_cons_succ] at x0 x1 x2
  go_wp2
  obtain ⟨st2, hk2⟩ := set3 (x := .int .i64 1) (y := .slice A' [(a, b), (c, d)].length c') (z := .slice none 0 0) st1 (fun e h => by simp at h; subst h; simp) (by omega)
  simp only [List.length_cons, List.length_nil, Nat.reduceAdd] at st2 hk2
  have hsz : w1.heap.size = (((w1.setCell ⟨w.heap.size + 1, 0, none⟩ (.int .i64 1)).setCell ⟨w.heap.size + 1, 1, none⟩ (.slice A' 2 c')).setCell ⟨w.heap.size + 1, 2, none⟩ (.slice none 0 0)).heap.size := by simp
  generalize ((w1.setCell _ _).setCell _ _).setCell _ _ = w2 at *
  have hS := (hSR.keep (w' := w2) fun b h1 h2 => hk2 b (by simp at h1; omega)).wide (l' := w.heap.size) (h' := w2.heap.size) (by simp; omega) (by omega)
  clear x0 x1 x2 xf
  have x0 := st2.cell 0 rfl 0
  have x1 := st2.cell 0 rfl 1
  have x2 := st2.cell 0 rfl 2
  simp only [List.getElem?_toArray, List.getElem?_cons_zero, List.getElem?_cons_succ] at x0 x1 x2
  exact bodyPost_ret (v := .agg #[.int .i64 1, .slice A' 2 c', .slice none 0 0]) (by simp [results, Tryz.results26, go_sem, x0, x1, x2]) rfl ⟨_, rfl, hS, st2.hb⟩
/-- a ring as the gate lets it in -/
def Good (l : List (Int × Int)) : Prop := (∀ p ∈ l, Bn3 p) ∧ l.length ≤ 12 ∧ simB l = true ∧ Lft l
set_option maxRecDepth 100000 in
set_option maxHeartbeats 16000000 in
theorem chn_c (l0 l1 l2 : List (Int × Int)) (ra rb rc rd : Int) (hl0 : l0.length ≤ 9223372036854775807) (hl1 : l1.length ≤ 9223372036854775807) (hl2 : l2.length ≤ 9223372036854775807) (v0 v1 v2 : Value) (w : World) (hv0 : SlP w v0 l0) (hv1 : SlP w v1 l1) (hv2 : SlP w v2 l2) :
    Calls Tryz.prog 4 #[v0, v1, v2, .agg #[.int .i64 ra, .int .i64 rb, .int .i64 rc, .int .i64 rd]] w fun e w' => e = .returned (.bool true) ∧ Below w.heap.size w w' := by
  obtain ⟨A0, c0, rfl, -⟩ := id hv0
  obtain ⟨A1, c1, rfl, -⟩ := id hv1
  obtain ⟨A2, c2, rfl, -⟩ := id hv2
  have st0 := (Blk.nil w).push rfl #[.int .i64 ra, .int .i64 rb, .int .i64 rc, .int .i64 rd] 42
  have hisr := fun u => isr_c ra rb rc rd u
  generalize hn0 : l0.length = n0 at *
  generalize hn1 : l1.length = n1 at *
  generalize hn2 : l2.length = n2 at *
  go_enter Tryz.func4, Tryz.ntmps4
  by_cases g0 : (2147483647 : Int) < (n0 : Int)
  · have d0 := decide_eq_true g0
    go_wp2
    go_ret
    exact ⟨rfl, st0.hb⟩
  have d0 := decide_eq_false g0
  by_cases g1 : (2147483647 : Int) < (n1 : Int)
  · have d1 := decide_eq_true g1
    go_wp2
    go_ret
    exact ⟨rfl, st0.hb⟩
  have d1 := decide_eq_false g1
  by_cases g2 : (2147483647 : Int) < (n2 : Int)
  · have d2 := decide_eq_true g2
    go_wp2
    go_ret
    exact ⟨rfl, st0.hb⟩
  have d2 := decide_eq_false g2
  have st1 := st0.push (b := w.heap.size + 1) (by simp) #[.slice A0 n0 c0, .slice A1 n1 c1, .slice A2 n2 c2] 22
  clear hl0 hl1 hl2
  obtain ⟨AL, sv, hAL, eA0, eA1, eA2, hrow⟩ : ∃ (AL : Nat → List (Int × Int)) (sv : Nat → Value), (∀ k, k < 3 → SlP w (sv k) (AL k) ∧ (AL k).length ≤ 2147483647) ∧ AL 0 = l0 ∧ AL 1 = l1 ∧ AL 2 = l2 ∧ ∀ (u : World) (b : Nat), u.heap[b]? = some (.cells #[.slice A0 n0 c0, .slice A1 n1 c1, .slice A2 n2 c2] 22 (0, 0)) → ∀ k, k < 3 → u.cell? ⟨b, k, none⟩ = some (sv k) := by
    refine ⟨fun k => if k = 0 then l0 else if k = 1 then l1 else l2, fun k => if k = 0 then .slice A0 n0 c0 else if k = 1 then .slice A1 n1 c1 else .slice A2 n2 c2, fun k hk => ?_, rfl, rfl, rfl, fun u b hu k hk => ?_⟩
    · match k, hk with
      | 0, _ => exact ⟨hv0, by simp; omega⟩
      | 1, _ => exact ⟨hv1, by simp; omega⟩
      | 2, _ => exact ⟨hv2, by simp; omega⟩
    · have := cellAt hu k
      rw [this]
      match k, hk with
      | 0, _ => rfl
      | 1, _ => rfl
      | 2, _ => rfl
  have hAb := st1.known 0 _ rfl
  go_wp2
  generalize (w.alloc _).alloc _ = w1 at *
  go_loopw [36] (fun i wr => ∃ k : Nat, k ≤ 3 ∧ i = .int .i64 k ∧ (∀ j, j < k → Good (AL j)) ∧ Blk w wr [(w.heap.size + 1, #[.slice A0 n0 c0, .slice A1 n1 c1, .slice A2 n2 c2], 22), (w.heap.size, #[.int .i64 ra, .int .i64 rb, .int .i64 rc, .int .i64 rd], 42)]) (fun i _ => 3 - (intOf i).toNat)
  case atStart => exact ⟨0, by omega, rfl, fun j hj => absurd hj (Nat.not_lt_zero _), st1⟩
  case round =>
    clear st1 hAb
    obtain ⟨k, hk3, rfl, hgood, st⟩ := hrel
    rcases Nat.lt_or_ge k 3 with hlt | hge
    · have hcell := hrow wr _ (st.known 0 _ rfl) k hlt
      obtain ⟨hsl, hlen⟩ := hAL k hlt
      have hlt' : (k : Int) < 3 := by omega
      have hst : (∀ P : Prop, P → P) := fun _ h => h
      have hgo : ∀ j, j < k + 1 → j < k ∨ j = k := fun j hj => by omega
      obtain ⟨m, hm⟩ : ∃ m, AL k = m := ⟨_, rfl⟩
      obtain ⟨vk, hvk⟩ : ∃ m, sv k = m := ⟨_, rfl⟩
      rw [hm] at hsl hlen
      rw [hvk] at hsl hcell
      clear hst
      have hisc := fun u hu => isc_c m 12 (by omega) vk u hu
      have hsim := fun u hu => sim_c m (by omega) vk u hu
      have hicr := fun (hb : ∀ p ∈ m, Bs p) (h9 : m.length ≤ 900000000) u hu => icr_c m hb h9 vk u hu
      have hbigc : iscB m 12 = true → (∀ p ∈ m, Bs p) ∧ (∀ p ∈ m, Bn3 p) ∧ m.length ≤ 12 := fun h => by
        obtain ⟨h8, hok⟩ := isc_le h
        exact ⟨(okS_b hok).1, (okS_b hok).2, by omega⟩
      generalize hi1 : iscB m 12 = i1 at *
      generalize hi3 : simB m = i3 at *
      clear hvk
      go_wp2_with (go_at_call 17; refine JR.StopY.out ?_)
      refine ⟨?_⟩
      refine (hisc _ (hsl.below st.hb)).mono ?_
      rintro e w2 ⟨rfl, hb⟩
      have st2 := st.ext hb
      clear hb st hisc hcell
      cases i1 with
      | false =>
        go_wp2
        go_ret
        exact ⟨rfl, st2.hb⟩
      | true =>
      obtain ⟨hBs, hB3, hn12⟩ := hbigc rfl
      go_wp2_with (go_at_call 23; refine JR.StopY.out ?_)
      refine ⟨?_⟩
      refine (hicr hBs (by omega) _ (hsl.below st2.hb)).mono ?_
      rintro e w3 ⟨q, rfl, hq, hb⟩
      have st3 := st2.ext hb
      clear hb st2 hicr
      cases q with
      | false =>
        go_wp2
        go_ret
        exact ⟨rfl, st3.hb⟩
      | true =>
      go_wp2_with (go_at_call 24; refine JR.StopY.out ?_)
      refine ⟨?_⟩
      refine (hsim _ (hsl.below st3.hb)).mono ?_
      rintro e w4 ⟨rfl, hb⟩
      have st4 := st3.ext hb
      clear hb st3 hsim
      cases i3 with
      | false =>
        go_wp2
        go_ret
        exact ⟨rfl, st4.hb⟩
      | true =>
      have hgk : Good (AL k) := by
        rw [hm]
        obtain ⟨-, hL⟩ := hq (by first | rfl | trivial)
        rw [sim_seg hi3] at hL
        exact ⟨hB3, hn12, hi3, hL⟩
      go_wp2
      go_roundw
      case rel =>
        refine ⟨k + 1, by omega, by go_num, fun j hj => ?_, st4⟩
        rcases hgo j hj with h | h
        · exact hgood j h
        · rw [h]; exact hgk
      case measure => simp [intOf]; omega
    · obtain rfl : k = 3 := by omega
      have G0 := hgood 0 (by omega)
      have G1 := hgood 1 (by omega)
      have G2 := hgood 2 (by omega)
      rw [eA0] at G0
      rw [eA1] at G1
      rw [eA2] at G2
      clear hgood hrow hAL eA0 eA1 eA2
      have st5 := st.tail
      have z0 := st5.cell 0 rfl 0
      have z1 := st5.cell 0 rfl 1
      have z2 := st5.cell 0 rfl 2
      have z3 := st5.cell 0 rfl 3
      simp only [List.getElem?_toArray, List.getElem?_cons_zero, List.getElem?_cons_succ] at z0 z1 z2 z3
      generalize hir : isrB ra rb rc rd = ir at *
      go_wp2_with (go_at_call 25; refine JR.StopY.out ?_)
      refine ⟨?_⟩
      refine (hisr _).mono ?_
      rintro e w5 ⟨rfl, hb⟩
      have st6 := st5.ext hb
      clear hb st st5 hisr z0 z1 z2 z3
      cases ir with
      | false =>
        go_wp2
        go_ret
        exact ⟨rfl, st6.hb⟩
      | true =>
      have hrr : ra < rc ∧ rb < rd ∧ Bn3 (ra, rb) ∧ Bn3 (rc, rd) := by
        unfold isrB at hir
        rw [Bool.and_eq_true, Bool.and_eq_true, decide_eq_true_iff, decide_eq_true_iff] at hir
        have hb := (okS_b (isc_le hir.1).2).2
        exact ⟨hir.2.1, hir.2.2, hb _ (by simp), hb _ (by simp)⟩
      have hp0 := fun u (s1 : SlP u (.slice A0 n0 c0) l0) => scPo_r l0 [] (by have := G0.2.1; omega) (by have := (sim_bs G0.2.2.1).1; omega) (by simp) (fun x hx => by simp at hx) (.slice A0 n0 c0) (.slice none 0 0) u s1 (SlH_nil _ 0 none)
      have hp1 := fun u (s1 : SlP u (.slice A1 n1 c1) l1) => scPo_r l1 [] (by have := G1.2.1; omega) (by have := (sim_bs G1.2.2.1).1; omega) (by simp) (fun x hx => by simp at hx) (.slice A1 n1 c1) (.slice none 0 0) u s1 (SlH_nil _ 0 none)
      have hp2 := fun u (s1 : SlP u (.slice A2 n2 c2) l2) => scPo_r l2 [] (by have := G2.2.1; omega) (by have := (sim_bs G2.2.2.1).1; omega) (by simp) (fun x hx => by simp at hx) (.slice A2 n2 c2) (.slice none 0 0) u s1 (SlH_nil _ 0 none)
      go_upto_region 11 with (fail)
      refine wp_region_K [] [.val (.slice A0 n0 c0), .val (.agg #[.slice A0 n0 c0, .slice none 0 0]), .sPo l0 [], .val (.slice A1 n1 c1), .val (.agg #[.slice A1 n1 c1, .slice none 0 0]), .sPo l1 [], .val (.slice A2 n2 c2), .val (.agg #[.slice A2 n2 c2, .slice none 0 0]), .sPo l2 [], .val (.agg #[.int .i64 ra, .int .i64 rb, .int .i64 rc, .int .i64 rd]), .sLn 1 [(ra, rb), (rc, rd)], .four 34 59 62 65 67, .fnS 68 id]
        [[.ini 0], [.frm 0 57], [.frm 1 58], [.ini 1], [.frm 3 60], [.frm 4 61], [.ini 2], [.frm 6 63], [.frm 7 64], [.ini 7], [.frm 9 66], [.frm 2 59, .frm 5 62, .frm 8 65, .frm 10 67], [.frm 11 68]]
        mixed (by kernel_rfl) (by kernel_rfl) (allPre_of ⟨trivial, trivial, trivial, trivial, trivial, trivial, trivial, trivial, trivial, trivial, trivial, trivial, trivial, trivial⟩)
        ⟨OpOk.quiet rfl ?_, OpOk.quiet rfl ?_, OpOk.call rfl ?_, OpOk.quiet rfl ?_, OpOk.quiet rfl ?_, OpOk.call rfl ?_, OpOk.quiet rfl ?_, OpOk.quiet rfl ?_, OpOk.call rfl ?_, OpOk.quiet rfl ?_, OpOk.call rfl ?_, OpOk.adds rfl ?_, OpOk.fnS rfl ?_, trivial⟩ ?_
      iterate 2
        · intro a_ u _ hf
          simp [facts, Need.fact, Ent.val, Act.eval] at hf
          go_simp
      · intro a_ u hG hf
        simp [facts, Need.fact, Ent.val, Act.eval] at hf
        refine ⟨_, _, by go_simp, (hp0 u (hv0.below (st6.keep0 hG).hb)).mono ?_⟩
        rintro e w' ⟨v1, v2, rfl, g1, g2, hb⟩
        exact ⟨_, rfl, hb, v1, v2, rfl, g1, g2⟩
      iterate 2
        · intro a_ u _ hf
          simp [facts, Need.fact, Ent.val, Act.eval] at hf
          go_simp
      · intro a_ u hG hf
        simp [facts, Need.fact, Ent.val, Act.eval] at hf
        refine ⟨_, _, by go_simp, (hp1 u (hv1.below (st6.keep0 hG).hb)).mono ?_⟩
        rintro e w' ⟨v1, v2, rfl, g1, g2, hb⟩
        exact ⟨_, rfl, hb, v1, v2, rfl, g1, g2⟩
      iterate 2
        · intro a_ u _ hf
          simp [facts, Need.fact, Ent.val, Act.eval] at hf
          go_simp
      · intro a_ u hG hf
        simp [facts, Need.fact, Ent.val, Act.eval] at hf
        refine ⟨_, _, by go_simp, (hp2 u (hv2.below (st6.keep0 hG).hb)).mono ?_⟩
        rintro e w' ⟨v1, v2, rfl, g1, g2, hb⟩
        exact ⟨_, rfl, hb, v1, v2, rfl, g1, g2⟩
      · intro a_ u hG hf
        simp [facts, Need.fact, Ent.val, Act.eval] at hf
        have s9 := st6.keep0 hG
        have y0 := s9.cell 0 rfl 0
        have y1 := s9.cell 0 rfl 1
        have y2 := s9.cell 0 rfl 2
        have y3 := s9.cell 0 rfl 3
        simp only [List.getElem?_toArray, List.getElem?_cons_zero, List.getElem?_cons_succ] at y0 y1 y2 y3
        go_simp
      · intro a_ u hG hf
        simp [facts, Need.fact, Ent.val, Act.eval] at hf
        refine ⟨_, _, by go_simp, (scRc_r ra rb rc rd u).mono ?_⟩
        rintro e w' ⟨v9, rfl, g1, hb⟩
        exact ⟨_, rfl, hb, v9, rfl, g1⟩
      · intro a_ u hG hf
        obtain ⟨⟨_, _, f1⟩, ⟨_, _, f2⟩, ⟨_, _, f3⟩, ⟨_, _, f4⟩, -⟩ := hf
        obtain ⟨x1, y1, e1, -⟩ := f1
        obtain ⟨x2, y2, e2, -⟩ := f2
        obtain ⟨x3, y3, e3, -⟩ := f3
        obtain ⟨x4, e4, -⟩ := f4
        have hfo : JR.four a_ 59 62 65 67 = #[.int .i64 3, x1, y1, .int .i64 3, x2, y2, .int .i64 3, x3, y3, .int .i64 1, x4, .slice none 0 0] := by unfold JR.four; rw [e1, e2, e3, e4]; rfl
        refine ⟨.slice (some ⟨u.heap.size, 0, none⟩) 4 4, u.alloc (.cells (JR.four a_ 59 62 65 67) 34), ?_, Ext.alloc _ _, u.heap.size, rfl, Nat.le_refl _, by simp, alloc_get _ _⟩
        rw [hfo]
        simp [Act.eval] at e1 e2 e3 e4
        go_simp
      · intro a_ u _ _
        go_simp
      intro u lw hw wc2 hKp hE hI hD
      simp only [allE, Ent.val] at hE
      obtain ⟨u0, u1, k2, u3, u4, k5, u6, u7, k8, u9, k10, k11, k12, -⟩ := hE
      simp only [Nat.reduceAdd] at u0 u1 u3 u4 u6 u7 u9
      simp only [allPut, Act.put, Nat.reduceAdd, u0, u1, u3, u4, u6, u7, u9]
      try simp only [List.setIfInBounds_toArray, List.set_cons_zero, List.set_cons_succ]
      clear hI hD u0 u1 u3 u4 u6 u7 u9
      obtain ⟨x0, y0, e0, s0, t0⟩ := k2
      obtain ⟨x1, y1, e1, s1, t1⟩ := k5
      obtain ⟨x2, y2, e2, s2, t2⟩ := k8
      obtain ⟨x3, e3, s3⟩ := k10
      obtain ⟨bq, e11, -, -, hrw⟩ := k11
      have e12 : u 12 = u 11 := by simpa [Ent.fnS, allPut, Act.put, Act.eval, Array.setIfInBounds] using k12
      simp only [Nat.reduceAdd] at e0 e1 e2 e3 e11
      rw [e11] at e12
      simp [JR.four, JR.ag3, allPut, Act.put, Act.eval, e0, e1, e2, e3] at hrw
      simp only [e0, e1, e2, e3, e11, e12]
      have s0 := s0.p
      have s1 := s1.p
      have s2 := s2.p
      have s3 := s3.p
      have t0 := t0.h
      have t1 := t1.h
      have t2 := t2.h
      clear k12 e0 e1 e2 e3 e11 e12 hp0 hp1 hp2
      have st7 := st6.keep0 hKp
      clear hKp st6
      obtain ⟨Aa, ka, rfl, -⟩ := id s0
      obtain ⟨Ab, kb, rfl, -⟩ := id s1
      obtain ⟨Ac, kc, rfl, -⟩ := id s2
      obtain ⟨Ad, kd, rfl, -⟩ := id s3
      obtain ⟨Ba, ja, rfl, -⟩ := id t0
      obtain ⟨Bb, jb, rfl, -⟩ := id t1
      obtain ⟨Bc, jc, rfl, -⟩ := id t2
      obtain ⟨Kf, Lf, Af, nf, kf, Bf, jf, hall⟩ : ∃ (Kf : Nat → Int) (Lf : Nat → List (Int × Int)) (Af : Nat → Option Addr) (nf kf : Nat → Nat) (Bf : Nat → Option Addr) (jf : Nat → Nat), ∀ k, k < 4 → (wc2.cell? ⟨bq, k * 3, none⟩ = some (.int .i64 (Kf k)) ∧ wc2.cell? ⟨bq, k * 3 + 1, none⟩ = some (.slice (Af k) (nf k) (kf k)) ∧ wc2.cell? ⟨bq, k * 3 + 2, none⟩ = some (.slice (Bf k) 0 (jf k))) ∧
          Cv (Kf k) (Lf k) ∧ ShOk (Kf k) (Lf k) [] ∧ SlP wc2 (.slice (Af k) (nf k) (kf k)) (Lf k) ∧ SlH wc2 (.slice (Bf k) 0 (jf k)) [] := by
        have okp : ∀ l, Good l → ShOk 3 l [] := fun l g => ⟨g.1, by simp, by simp, .inr (.inr (.inr ⟨rfl, (sim_bs g.2.2.1).1, g.2.1⟩))⟩
        have okr : ShOk 1 [(ra, rb), (rc, rd)] [] := ⟨by intro q hq; simp at hq; rcases hq with h | h <;> rw [h]; exact hrr.2.2.1; exact hrr.2.2.2, by simp, by simp, .inr (.inl ⟨rfl, ra, rb, rc, rd, rfl, hrr.1, hrr.2.1⟩)⟩
        refine ⟨fun k => if k = 3 then 1 else 3, fun k => if k = 0 then l0 else if k = 1 then l1 else if k = 2 then l2 else [(ra, rb), (rc, rd)], fun k => if k = 0 then Aa else if k = 1 then Ab else if k = 2 then Ac else Ad, fun k => if k = 0 then l0.length else if k = 1 then l1.length else if k = 2 then l2.length else 2, fun k => if k = 0 then ka else if k = 1 then kb else if k = 2 then kc else kd, fun k => if k = 0 then Ba else if k = 1 then Bb else if k = 2 then Bc else none, fun k => if k = 0 then ja else if k = 1 then jb else if k = 2 then jc else 0, fun k hk => ?_⟩
        have c0 := cellAt hrw (k * 3)
        have c1 := cellAt hrw (k * 3 + 1)
        have c2 := cellAt hrw (k * 3 + 2)
        rw [c0, c1, c2]
        match k, hk with
        | 0, _ => exact ⟨⟨rfl, rfl, rfl⟩, .inl ⟨rfl, G0.2.2.1, G0.2.2.2⟩, okp _ G0, s0, t0⟩
        | 1, _ => exact ⟨⟨rfl, rfl, rfl⟩, .inl ⟨rfl, G1.2.2.1, G1.2.2.2⟩, okp _ G1, s1, t1⟩
        | 2, _ => exact ⟨⟨rfl, rfl, rfl⟩, .inl ⟨rfl, G2.2.2.1, G2.2.2.2⟩, okp _ G2, s2, t2⟩
        | 3, _ => exact ⟨⟨rfl, rfl, rfl⟩, .inr ⟨rfl, ra, rb, rc, rd, rfl, hrr.1, hrr.2.1⟩, okr, s3, SlH_nil _ 0 none⟩
      obtain ⟨V, hV⟩ : ∃ V : Nat → Nat → Bool, (fun i j => hdS (Kf i) (Lf i) [] (Kf j) (Lf j) []) = V := ⟨_, rfl⟩
      have hV1 : ∀ i j, hdS (Kf i) (Lf i) [] (Kf j) (Lf j) [] = V i j := fun i j => congrFun (congrFun hV i) j
      have hself : ∀ i, i < 4 → V i i = true := fun i hi => by rw [← hV1]; exact hd_self (hall i hi).2.1
      have htr : ∀ i j k, i < 4 → j < 4 → k < 4 → V i j = true → V j k = true → V i k = true := fun i j k hi hj hk h1 h2 => by
        rw [← hV1] at h1 h2 ⊢
        exact hd_trans (hall i hi).2.1 (hall j hj).2.1 (hall k hk).2.1 h1 h2
      have hhol : ∀ i j, i < 4 → j < 4 → ∀ u, Below wc2.heap.size wc2 u → Calls Tryz.prog 27 #[.agg #[.int .i64 (Kf i), .slice (Af i) (nf i) (kf i), .slice (Bf i) 0 (jf i)], .agg #[.int .i64 (Kf j), .slice (Af j) (nf j) (kf j), .slice (Bf j) 0 (jf j)]] u fun e w' => e = .returned (.bool (V i j)) ∧ Below u.heap.size u w' := by
        intro i j hi hj u hu
        obtain ⟨-, i1, i2, i3, i4⟩ := hall i hi
        obtain ⟨-, j1, j2, j3, j4⟩ := hall j hj
        have i3 := i3.below hu
        have i4 := i4.below hu
        have j3 := j3.below hu
        have j4 := j4.below hu
        rw [← hV1]
        have hsc : ScOk (Kf i) (Lf i) [] (Kf j) (Lf j) := by
          rcases i1 with ⟨e, hs, hL⟩ | ⟨e, -⟩
          · exact .inr (.inr (.inr ⟨e, .inr ⟨rfl, conv_ppV hs hL⟩⟩))
          · exact .inr (.inl e)
        refine hol_c _ _ _ _ _ _ _ _ _ _ _ _ _ _ _ (mtV (Kf i) (Lf i) [] (Kf j) (Lf j) []) u fun z hz => ?_
        exact ask_sc (X := 0) (by omega) _ _ _ i2 _ _ _ hsc j2 _ _ _ _ z (i3.below hz) (i4.below hz) (j3.below hz) (j4.below hz)
      have hcel := fun k hk => (hall k hk).1
      clear hV hV1 hall s0 s1 s2 s3 t0 t1 t2 hrw hrr G0 G1 G2 hv0 hv1 hv2
      have hBw := st7.hb
      clear st7
      generalize wc2 = w7 at *
      have hsn := Below.refl w7.heap.size w7
      go_wp2
      go_loopw [71] (fun i wr => ∃ k : Nat, k ≤ 4 ∧ i = .int .i64 k ∧ Below w7.heap.size w7 wr) (fun i _ => 4 - (intOf i).toNat)
      case atStart => exact ⟨0, by omega, rfl, Below.refl _ _⟩
      case round =>
        clear hsn
        obtain ⟨i, hi4, rfl, hB⟩ := hrel
        rcases Nat.lt_or_ge i 4 with hil | hig
        · obtain ⟨p0, p1, p2⟩ := hcel i hil
          have p0 := (hB.cell (World.block_lt_of_cell? _ _ p0)).trans p0
          have p1 := (hB.cell (World.block_lt_of_cell? _ _ p1)).trans p1
          have p2 := (hB.cell (World.block_lt_of_cell? _ _ p2)).trans p2
          have hil' : (i : Int) < 4 := by omega
          have hsf := hself i hil
          have hh := fun u hu => hhol i i hil hil u hu
          rw [hsf] at hh
          have st := (Blk.nil wr).push rfl #[.int .i64 (Kf i), .slice (Af i) (nf i) (kf i), .slice (Bf i) 0 (jf i)] 34
          have hBa := hB.alloc hB.size (.cells #[.int .i64 (Kf i), .slice (Af i) (nf i) (kf i), .slice (Bf i) 0 (jf i)] 34)
          have z0 := st.cell 0 rfl 0
          have z1 := st.cell 0 rfl 1
          have z2 := st.cell 0 rfl 2
          simp only [List.getElem?_toArray, List.getElem?_cons_zero, List.getElem?_cons_succ] at z0 z1 z2
          go_wp2_with (go_at_call 27; refine JR.StopY.out ?_)
          refine ⟨?_⟩
          refine (hh _ hBa).mono ?_
          rintro e w8 ⟨rfl, hb⟩
          have stx := st.ext hb
          have hBx := hBa.trans (hb.mono hBa.size)
          clear hb z0 z1 z2 p0 p1 p2 hh hsf hBa st
          go_wp2
          generalize hwr : wr = wo at *
          generalize hbx : wo.heap.size = bx at *
          go_loopw [81] (fun i wr => ∃ k : Nat, k ≤ 4 ∧ i = .int .i64 k ∧ Below w8.heap.size w8 wr) (fun i _ => 4 - (intOf i).toNat)
          case atStart => exact ⟨0, by omega, rfl, Below.refl _ _⟩
          case round =>
            obtain ⟨j, hj4, rfl, hBj⟩ := hrel
            have hBj7 := hBx.trans (hBj.mono hBx.size)
            have stj := stx.ext hBj
            rcases Nat.lt_or_ge j 4 with hjl | hjg
            · obtain ⟨p0, p1, p2⟩ := hcel j hjl
              have p0 := (hBj7.cell (World.block_lt_of_cell? _ _ p0)).trans p0
              have p1 := (hBj7.cell (World.block_lt_of_cell? _ _ p1)).trans p1
              have p2 := (hBj7.cell (World.block_lt_of_cell? _ _ p2)).trans p2
              have hjl' : (j : Int) < 4 := by omega
              have st2 := stj.push (b := wr.heap.size) rfl #[.int .i64 (Kf j), .slice (Af j) (nf j) (kf j), .slice (Bf j) 0 (jf j)] 34
              have hBb := hBj7.alloc hBj7.size (.cells #[.int .i64 (Kf j), .slice (Af j) (nf j) (kf j), .slice (Bf j) 0 (jf j)] 34)
              have hBb8 := hBj.alloc hBj.size (.cells #[.int .i64 (Kf j), .slice (Af j) (nf j) (kf j), .slice (Bf j) 0 (jf j)] 34)
              go_wp2
              clear p0 p1 p2 hBj7 stj hBj
              generalize wr.alloc _ = w9 at *
              generalize wr.heap.size = b9 at *
              go_loopw [87] (fun i wr => ∃ k : Nat, k ≤ 4 ∧ i = .int .i64 k ∧ Below w9.heap.size w9 wr) (fun i _ => 4 - (intOf i).toNat)
              case atStart => exact ⟨0, by omega, rfl, Below.refl _ _⟩
              case round =>
                obtain ⟨k, hk4, rfl, hBk⟩ := hrel
                have hBk7 := hBb.trans (hBk.mono hBb.size)
                have stk := st2.ext hBk
                rcases Nat.lt_or_ge k 4 with hkl | hkg
                · obtain ⟨p0, p1, p2⟩ := hcel k hkl
                  have p0 := (hBk7.cell (World.block_lt_of_cell? _ _ p0)).trans p0
                  have p1 := (hBk7.cell (World.block_lt_of_cell? _ _ p1)).trans p1
                  have p2 := (hBk7.cell (World.block_lt_of_cell? _ _ p2)).trans p2
                  have hkl' : (k : Int) < 4 := by omega
                  have st3 := stk.push (b := wr.heap.size) rfl #[.int .i64 (Kf k), .slice (Af k) (nf k) (kf k), .slice (Bf k) 0 (jf k)] 34
                  have hBc := hBk7.alloc hBk7.size (.cells #[.int .i64 (Kf k), .slice (Af k) (nf k) (kf k), .slice (Bf k) 0 (jf k)] 34)
                  have hBc9 := hBk.alloc hBk.size (.cells #[.int .i64 (Kf k), .slice (Af k) (nf k) (kf k), .slice (Bf k) 0 (jf k)] 34)
                  have hh1 := fun u hu => hhol i j hil hjl u hu
                  have hh2 := fun u hu => hhol j k hjl hkl u hu
                  have hh3 := fun u hu => hhol i k hil hkl u hu
                  have htt := htr i j k hil hjl hkl
                  generalize V i j = q1 at *
                  generalize V j k = q2 at *
                  generalize V i k = q3 at *
                  clear stk hBk hBk7
                  go_upto_region 23 with (fail)
                  clear p0 p1 p2
                  generalize wr.alloc _ = wa at *
                  generalize wr.heap.size = ba at *
                  have x0 := st3.cell 2 rfl 0
                  have x1 := st3.cell 2 rfl 1
                  have x2 := st3.cell 2 rfl 2
                  simp only [List.getElem?_toArray, List.getElem?_cons_zero, List.getElem?_cons_succ] at x0 x1 x2
                  have y0 := st3.cell 1 rfl 0
                  have y1 := st3.cell 1 rfl 1
                  have y2 := st3.cell 1 rfl 2
                  simp only [List.getElem?_toArray, List.getElem?_cons_zero, List.getElem?_cons_succ] at y0 y1 y2
                  go_wp2_with (go_at_call 27; refine JR.StopY.out ?_)
                  refine ⟨?_⟩
                  refine (hh1 _ hBc).mono ?_
                  rintro e wb ⟨rfl, hb⟩
                  have st4 := st3.ext hb
                  have hBd := hBc.trans (hb.mono hBc.size)
                  have hBd9 := hBc9.trans (hb.mono hBc9.size)
                  clear hb st3 x0 x1 x2 y0 y1 y2 hBc hBc9 hh1
                  cases q1 with
                  | false =>
                    go_wp2
                    go_roundw
                    case rel => exact ⟨k + 1, by omega, by go_num, hBd9⟩
                    case measure => simp [intOf]; omega
                  | true =>
                  have y0 := st4.cell 1 rfl 0
                  have y1 := st4.cell 1 rfl 1
                  have y2 := st4.cell 1 rfl 2
                  simp only [List.getElem?_toArray, List.getElem?_cons_zero, List.getElem?_cons_succ] at y0 y1 y2
                  have z0 := st4.cell 0 rfl 0
                  have z1 := st4.cell 0 rfl 1
                  have z2 := st4.cell 0 rfl 2
                  simp only [List.getElem?_toArray, List.getElem?_cons_zero, List.getElem?_cons_succ] at z0 z1 z2
                  go_wp2_with (go_at_call 27; refine JR.StopY.out ?_)
                  refine ⟨?_⟩
                  refine (hh2 _ hBd).mono ?_
                  rintro e wd ⟨rfl, hb⟩
                  have st5 := st4.ext hb
                  have hBe := hBd.trans (hb.mono hBd.size)
                  have hBe9 := hBd9.trans (hb.mono hBd9.size)
                  clear hb st4 z0 z1 z2 y0 y1 y2 hBd hBd9 hh2
                  cases q2 with
                  | false =>
                    go_wp2
                    go_roundw
                    case rel => exact ⟨k + 1, by omega, by go_num, hBe9⟩
                    case measure => simp [intOf]; omega
                  | true =>
                  obtain rfl : q3 = true := htt (by first | rfl | trivial) (by first | rfl | trivial)
                  have x0 := st5.cell 2 rfl 0
                  have x1 := st5.cell 2 rfl 1
                  have x2 := st5.cell 2 rfl 2
                  simp only [List.getElem?_toArray, List.getElem?_cons_zero, List.getElem?_cons_succ] at x0 x1 x2
                  have z0 := st5.cell 0 rfl 0
                  have z1 := st5.cell 0 rfl 1
                  have z2 := st5.cell 0 rfl 2
                  simp only [List.getElem?_toArray, List.getElem?_cons_zero, List.getElem?_cons_succ] at z0 z1 z2
                  go_wp2_with (go_at_call 27; refine JR.StopY.out ?_)
                  refine ⟨?_⟩
                  refine (hh3 _ hBe).mono ?_
                  rintro e we ⟨rfl, hb⟩
                  have hBf9 := hBe9.trans (hb.mono hBe9.size)
                  clear hb st5 z0 z1 z2 x0 x1 x2 hBe hBe9 hh3
                  go_wp2
                  go_roundw
                  case rel => exact ⟨k + 1, by omega, by go_num, hBf9⟩
                  case measure => simp [intOf]; omega
                · obtain rfl : k = 4 := by omega
                  go_wp2
                  go_roundw
                  case rel => exact ⟨j + 1, by omega, by go_num, hBb8.trans (hBk.mono hBb8.size)⟩
                  case measure => simp [intOf]; omega
            · obtain rfl : j = 4 := by omega
              go_wp2
              go_roundw
              case rel =>
                go_simp
                exact ⟨_, _, _, _, _, ⟨i + 1, by omega, rfl⟩, rfl, rfl, rfl, rfl, by go_num⟩
              case measure => simp [intOf]; omega
        · obtain rfl : i = 4 := by omega
          have hBw := hBw.trans (hB.mono hBw.size)
          clear hhol htr hself hcel
          go_wp2_with (go_at_call 22; refine JR.StopY.out ?_)
          refine ⟨?_⟩
          refine (awk_c _).mono ?_
          rintro e w8 ⟨rfl, hb⟩
          have hBw := hBw.trans (hb.mono hBw.size)
          clear hb
          go_wp2
          go_ret
          exact ⟨rfl, hBw⟩
end Go.Proofs.YtcoeiimohkofjaaGreat
