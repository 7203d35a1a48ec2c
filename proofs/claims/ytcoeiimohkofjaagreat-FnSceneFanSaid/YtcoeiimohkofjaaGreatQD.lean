import Derived.Test.YtcoeiimohkofjaaGreatQX
import Derived.Test.YtcoeiimohkofjaaGreatYi
set_option linter.unusedSimpArgs false
set_option linter.unusedVariables false
/-! Plane geometry: a segment whose ends are outside a ring meets none of its edges, or two; so a ring and a line meet just if they have a point in common. -/
namespace PF
section
variable {P Q a b : Int × Int}
/-- two segments cross, each within the other -/
def crs (P Q a b : Int × Int) : Prop := ((0 < gsd P Q a ∧ gsd P Q b < 0) ∨ (gsd P Q a < 0 ∧ 0 < gsd P Q b)) ∧ ((0 < gsd a b P ∧ gsd a b Q < 0) ∨ (gsd a b P < 0 ∧ 0 < gsd a b Q))
theorem crs_swap1 (h : crs P Q a b) : crs Q P a b := by
  have e1 := gsd_swap P Q a
  have e2 := gsd_swap P Q b
  unfold crs at h ⊢
  omega
theorem gmt_cases (h : gmt P Q a b = true) : gon P Q a = true ∨ gon P Q b = true ∨ gon a b P = true ∨ gon a b Q = true ∨ crs P Q a b := by
  unfold gmt at h
  rw [Bool.or_eq_true, Bool.or_eq_true, Bool.or_eq_true, Bool.or_eq_true, Bool.and_eq_true, decide_eq_true_iff, decide_eq_true_iff, gsgn_neg, gsgn_neg] at h
  rcases h with (((h | h) | h) | h) | ⟨h1, h2⟩
  · exact .inl h
  · exact .inr (.inl h)
  · exact .inr (.inr (.inl h))
  · exact .inr (.inr (.inr (.inl h)))
  · exact .inr (.inr (.inr (.inr ⟨h1.elim .inr .inl, h2.elim .inr .inl⟩)))
theorem gmt_3 (h : gon a b P = true) : gmt P Q a b = true := by unfold gmt; rw [h, Bool.or_true, Bool.true_or, Bool.true_or]
end
/-- an odd number of the first n is true -/
def xoN (f : Nat → Bool) : Nat → Bool
  | 0 => false
  | n + 1 => xoN f n != f n
theorem xoN_congr {f g : Nat → Bool} : ∀ {n : Nat}, (∀ k, k < n → f k = g k) → xoN f n = xoN g n := by
  intro n
  induction n with
  | zero => intro _; rfl
  | succ n ih => intro h; rw [xoN, xoN, ih fun k hk => h k (by omega), h n (by omega)]
theorem xoN_none {f : Nat → Bool} : ∀ {n : Nat}, (∀ k, k < n → f k = false) → xoN f n = false := by
  intro n
  induction n with
  | zero => intro _; rfl
  | succ n ih => intro h; rw [xoN, ih fun k hk => h k (by omega), h n (by omega)]; rfl
theorem xoN_one {i : Nat} : ∀ {n : Nat}, i < n → xoN (fun k => decide (k = i)) n = true := by
  intro n
  induction n with
  | zero => intro h; omega
  | succ n ih =>
    intro h
    rw [xoN]
    by_cases g : n = i
    · rw [xoN_none fun k hk => decide_eq_false (by omega), decide_eq_true g]; rfl
    · rw [ih (by omega), decide_eq_false g]; rfl
end PF
namespace Go.Proofs.YtcoeiimohkofjaaGreat
open Go.RowKit PF JR
theorem xrs_xo (l : List (Int × Int)) (p : Int × Int) : ∀ n, xrs l p n = xoN (rin l p) n := by
  intro n
  induction n with
  | zero => rfl
  | succ n ih => rw [xrs, xoN, ih]
theorem xoN_cyc {l : List (Int × Int)} (q : Int × Int → Bool) (h0 : 0 < l.length) : xoN (fun k => q (at' l k) != q (nxp l k)) l.length = false := by
  have key : ∀ k, k < l.length → xoN (fun k => q (at' l k) != q (nxp l k)) k = (q (at' l 0) != q (at' l k)) := by
    intro k
    induction k with
    | zero => intro _; simp [xoN]
    | succ k ih =>
      intro hk
      rw [xoN, ih (by omega), nxp_mid hk]
      cases q (at' l 0) <;> cases q (at' l k) <;> cases q (at' l (k + 1)) <;> rfl
  obtain ⟨n, hn⟩ : ∃ n, l.length = n + 1 := ⟨l.length - 1, by omega⟩
  rw [hn, xoN, key n (by omega), nxp_end hn.symm]
  cases q (at' l 0) <;> cases q (at' l n) <;> rfl
end Go.Proofs.YtcoeiimohkofjaaGreat
set_option linter.unusedSimpArgs false
set_option linter.unusedVariables false
/-! Plane geometry: two segments meet just if they have a point in common (whole, once all is scaled); so a path of two segments that cross keeps its side of a ring that it does not meet. -/
namespace PF
def scl (D : Int) (p : Int × Int) : Int × Int := (D * p.1, D * p.2)
section
variable {P Q X Y M a b c d p q r : Int × Int} {D : Int}
theorem scl_one (p : Int × Int) : scl 1 p = p := by unfold scl; rw [Int.one_mul, Int.one_mul]
theorem gsd_scl : gsd (scl D a) (scl D b) (scl D p) = D * D * gsd a b p := by unfold gsd scl; grind
theorem mulD_le (hD : 0 < D) {x y : Int} : D * x ≤ D * y ↔ x ≤ y := ⟨fun h => Int.le_of_mul_le_mul_left h hD, fun h => Int.mul_le_mul_of_nonneg_left h (by omega)⟩
theorem mulD_zero (hD : 0 < D) {x : Int} : D * D * x = 0 ↔ x = 0 := by
  constructor
  · intro h
    have h2 := mpp hD hD
    rcases Int.mul_eq_zero.1 h with g | g
    · omega
    · exact g
  · intro h; rw [h, Int.mul_zero]
theorem mulD_pos (hD : 0 < D) {x : Int} : 0 < D * D * x ↔ 0 < x := by
  have h2 := mpp hD hD
  constructor
  · exact fun h => pos_of_mul (by omega) h
  · exact fun h => mpp h2 h
theorem mulD_neg (hD : 0 < D) {x : Int} : D * D * x < 0 ↔ x < 0 := by
  have h1 := mulD_pos hD (x := x)
  have h2 := mulD_zero hD (x := x)
  omega
theorem gsgn_scl (hD : 0 < D) (x : Int) : gsgn (D * D * x) = gsgn x := by
  have h1 := mulD_pos hD (x := x)
  have h2 := mulD_neg hD (x := x)
  unfold gsgn
  split <;> split <;> (try split) <;> (try split) <;> omega
theorem gon_swap (a b p : Int × Int) : gon b a p = gon a b p := by
  unfold gon gwi; rw [gsd_swap a b p, Int.min_comm, Int.max_comm, Int.min_comm b.2, Int.max_comm b.2, decide_eq_decide.2 (show -gsd a b p = 0 ↔ gsd a b p = 0 by omega)]
theorem gon_scl (hD : 0 < D) : gon (scl D a) (scl D b) (scl D p) = gon a b p := by
  have l1 := mulD_le hD (x := a.1) (y := p.1)
  have l2 := mulD_le hD (x := p.1) (y := b.1)
  have l3 := mulD_le hD (x := b.1) (y := p.1)
  have l4 := mulD_le hD (x := p.1) (y := a.1)
  have l5 := mulD_le hD (x := a.2) (y := p.2)
  have l6 := mulD_le hD (x := p.2) (y := b.2)
  have l7 := mulD_le hD (x := b.2) (y := p.2)
  have l8 := mulD_le hD (x := p.2) (y := a.2)
  have l9 := mulD_zero hD (x := gsd a b p)
  rw [Bool.eq_iff_iff, gon_iff, gon_iff, gsd_scl, l9]
  unfold scl
  simp only
  omega
theorem gmt_scl (hD : 0 < D) (a b c d : Int × Int) : gmt (scl D a) (scl D b) (scl D c) (scl D d) = gmt a b c d := by
  unfold gmt
  rw [gon_scl hD, gon_scl hD, gon_scl hD, gon_scl hD, gsd_scl, gsd_scl, gsd_scl, gsd_scl, gsgn_scl hD, gsgn_scl hD, gsgn_scl hD, gsgn_scl hD]
theorem conv_box {t u x y : Int} (ht : 0 ≤ t) (hu : 0 ≤ u) : min ((t + u) * x) ((t + u) * y) ≤ t * y + u * x ∧ t * y + u * x ≤ max ((t + u) * x) ((t + u) * y) := by
  have e1 : (t + u) * x = t * x + u * x := by grind
  have e2 : (t + u) * y = t * y + u * y := by grind
  rw [e1, e2]
  rcases Int.le_total x y with h | h
  · have h1 := Int.mul_le_mul_of_nonneg_left h ht
    have h2 := Int.mul_le_mul_of_nonneg_left h hu
    omega
  · have h1 := Int.mul_le_mul_of_nonneg_left h ht
    have h2 := Int.mul_le_mul_of_nonneg_left h hu
    omega
theorem crs_common (h : crs P Q a b) (ht : 0 < gsd a b P ∧ gsd a b Q < 0) : ∃ D X, 0 < D ∧ gon (scl D P) (scl D Q) X = true ∧ gon (scl D a) (scl D b) X = true := by
  have i3 := se3 (P := P) (Q := Q) (a := a) (b := b)
  have b1 : gsd a b P * Q.1 + -gsd a b Q * P.1 = -gsd P Q a * b.1 + gsd P Q b * a.1 := by unfold gsd; grind
  have b2 : gsd a b P * Q.2 + -gsd a b Q * P.2 = -gsd P Q a * b.2 + gsd P Q b * a.2 := by unfold gsd; grind
  have z1 : gsd (scl (gsd a b P + -gsd a b Q) P) (scl (gsd a b P + -gsd a b Q) Q) (gsd a b P * Q.1 + -gsd a b Q * P.1, gsd a b P * Q.2 + -gsd a b Q * P.2) = 0 := by
    generalize gsd a b P = t
    generalize gsd a b Q = u
    unfold gsd scl; simp only; grind
  have z2 : gsd (scl (gsd a b P + -gsd a b Q) a) (scl (gsd a b P + -gsd a b Q) b) (gsd a b P * Q.1 + -gsd a b Q * P.1, gsd a b P * Q.2 + -gsd a b Q * P.2) = 0 := by
    have k : ∀ t u : Int, gsd (scl (t + -u) a) (scl (t + -u) b) (t * Q.1 + -u * P.1, t * Q.2 + -u * P.2) = (t + -u) * (t * gsd a b Q - u * gsd a b P) := fun t u => by unfold gsd scl; simp only; grind
    rw [k, show gsd a b P * gsd a b Q - gsd a b Q * gsd a b P = 0 by rw [Int.mul_comm]; omega, Int.mul_zero]
  unfold crs at h
  refine ⟨gsd a b P + -gsd a b Q, (gsd a b P * Q.1 + -gsd a b Q * P.1, gsd a b P * Q.2 + -gsd a b Q * P.2), by omega, gon_iff.2 ⟨?_, z1⟩, gon_iff.2 ⟨?_, z2⟩⟩
  · have c1 := conv_box (t := gsd a b P) (u := -gsd a b Q) (x := P.1) (y := Q.1) (by omega) (by omega)
    have c2 := conv_box (t := gsd a b P) (u := -gsd a b Q) (x := P.2) (y := Q.2) (by omega) (by omega)
    exact ⟨c1.1, c1.2, c2.1, c2.2⟩
  · have c1 := conv_box (t := -gsd P Q a) (u := gsd P Q b) (x := a.1) (y := b.1) (by omega) (by omega)
    have c2 := conv_box (t := -gsd P Q a) (u := gsd P Q b) (x := a.2) (y := b.2) (by omega) (by omega)
    rw [← b1, show -gsd P Q a + gsd P Q b = gsd a b P + -gsd a b Q by omega] at c1
    rw [← b2, show -gsd P Q a + gsd P Q b = gsd a b P + -gsd a b Q by omega] at c2
    exact ⟨c1.1, c1.2, c2.1, c2.2⟩
/-- two segments that meet have a point in common, whole once all is scaled -/
theorem gmt_common (h : gmt P Q a b = true) : ∃ D X, 0 < D ∧ gon (scl D P) (scl D Q) X = true ∧ gon (scl D a) (scl D b) X = true := by
  rcases gmt_cases h with g | g | g | g | g
  · exact ⟨1, a, by omega, by rw [scl_one, scl_one]; exact g, by rw [scl_one, scl_one]; exact gon_a _ _⟩
  · exact ⟨1, b, by omega, by rw [scl_one, scl_one]; exact g, by rw [scl_one, scl_one]; exact gon_b _ _⟩
  · exact ⟨1, P, by omega, by rw [scl_one, scl_one]; exact gon_a _ _, by rw [scl_one, scl_one]; exact g⟩
  · exact ⟨1, Q, by omega, by rw [scl_one, scl_one]; exact gon_b _ _, by rw [scl_one, scl_one]; exact g⟩
  · rcases g.2 with k | k
    · exact crs_common g k
    · obtain ⟨D, X, h1, h2, h3⟩ := crs_common (crs_swap1 g) ⟨k.2, k.1⟩
      exact ⟨D, X, h1, by rw [gon_swap]; exact h2, h3⟩
theorem gon_deg (h : gon a a X = true) : X = a := by
  have h := (gon_iff.1 h).1
  exact Prod.ext (by omega) (by omega)
/-- a point on a segment is a mean of its ends -/
theorem gon_par (h : gon P Q X = true) : ∃ n k : Int, 0 ≤ k ∧ k ≤ n ∧ 0 < n ∧ n * X.1 = (n - k) * P.1 + k * Q.1 ∧ n * X.2 = (n - k) * P.2 + k * Q.2 := by
  by_cases e : P = Q
  · subst e
    have e := gon_deg h
    subst e
    exact ⟨1, 0, by omega, by omega, by omega, by omega, by omega⟩
  obtain ⟨hb, hz⟩ := gon_iff.1 h
  have d1 : 0 ≤ (X.1 - P.1) * (Q.1 - P.1) := by
    rcases Int.le_total P.1 Q.1 with g | g
    · exact mqq (by omega) (by omega)
    · exact mrr (by omega) (by omega)
  have d2 : 0 ≤ (X.2 - P.2) * (Q.2 - P.2) := by
    rcases Int.le_total P.2 Q.2 with g | g
    · exact mqq (by omega) (by omega)
    · exact mrr (by omega) (by omega)
  have d3 : 0 ≤ (Q.1 - X.1) * (Q.1 - P.1) := by
    rcases Int.le_total P.1 Q.1 with g | g
    · exact mqq (by omega) (by omega)
    · exact mrr (by omega) (by omega)
  have d4 : 0 ≤ (Q.2 - X.2) * (Q.2 - P.2) := by
    rcases Int.le_total P.2 Q.2 with g | g
    · exact mqq (by omega) (by omega)
    · exact mrr (by omega) (by omega)
  have e1 : (Q.1 - P.1) * (Q.1 - P.1) = (X.1 - P.1) * (Q.1 - P.1) + (Q.1 - X.1) * (Q.1 - P.1) := by grind
  have e2 : (Q.2 - P.2) * (Q.2 - P.2) = (X.2 - P.2) * (Q.2 - P.2) + (Q.2 - X.2) * (Q.2 - P.2) := by grind
  refine ⟨(Q.1 - P.1) * (Q.1 - P.1) + (Q.2 - P.2) * (Q.2 - P.2), (X.1 - P.1) * (Q.1 - P.1) + (X.2 - P.2) * (Q.2 - P.2), by omega, by omega, ?_, ?_, ?_⟩
  · have s1 : 0 ≤ (Q.1 - P.1) * (Q.1 - P.1) := by omega
    have s2 : 0 ≤ (Q.2 - P.2) * (Q.2 - P.2) := by omega
    rcases (show Q.1 - P.1 ≠ 0 ∨ Q.2 - P.2 ≠ 0 from Classical.byContradiction fun hn => e (Prod.ext (by omega) (by omega))) with g | g
    · have : (Q.1 - P.1) * (Q.1 - P.1) ≠ 0 := fun h => g ((Int.mul_eq_zero.1 h).elim id id)
      omega
    · have : (Q.2 - P.2) * (Q.2 - P.2) ≠ 0 := fun h => g ((Int.mul_eq_zero.1 h).elim id id)
      omega
  · unfold gsd at hz; grind
  · unfold gsd at hz; grind
/-- how far along a b -/
def tau (a b p : Int × Int) : Int := (p.1 - a.1) * (b.1 - a.1) + (p.2 - a.2) * (b.2 - a.2)
theorem tau_pos (h : a ≠ b) : 0 < tau a b b := by
  unfold tau
  have s1 : 0 ≤ (b.1 - a.1) * (b.1 - a.1) := by
    rcases Int.le_total a.1 b.1 with g | g
    · exact mqq (by omega) (by omega)
    · exact mrr (by omega) (by omega)
  have s2 : 0 ≤ (b.2 - a.2) * (b.2 - a.2) := by
    rcases Int.le_total a.2 b.2 with g | g
    · exact mqq (by omega) (by omega)
    · exact mrr (by omega) (by omega)
  rcases (show b.1 - a.1 ≠ 0 ∨ b.2 - a.2 ≠ 0 from Classical.byContradiction fun hn => h (Prod.ext (by omega) (by omega))) with g | g
  · have : (b.1 - a.1) * (b.1 - a.1) ≠ 0 := fun h => g ((Int.mul_eq_zero.1 h).elim id id)
    omega
  · have : (b.2 - a.2) * (b.2 - a.2) ≠ 0 := fun h => g ((Int.mul_eq_zero.1 h).elim id id)
    omega
theorem tau_1 (hp : gsd a b p = 0) : tau a b b * (p.1 - a.1) = tau a b p * (b.1 - a.1) := by unfold tau; unfold gsd at hp; grind
theorem tau_2 (hp : gsd a b p = 0) : tau a b b * (p.2 - a.2) = tau a b p * (b.2 - a.2) := by unfold tau; unfold gsd at hp; grind
theorem col_box {N t1 t2 t3 e x1 x2 x3 : Int} (hN : 0 < N) (h1 : N * x1 = t1 * e) (h2 : N * x2 = t2 * e) (h3 : N * x3 = t3 * e) (hb : t1 ≤ t3 ∧ t3 ≤ t2) : min x1 x2 ≤ x3 ∧ x3 ≤ max x1 x2 := by
  have l1 := mulD_le hN (x := x1) (y := x3)
  have l2 := mulD_le hN (x := x3) (y := x2)
  have l3 := mulD_le hN (x := x3) (y := x1)
  have l4 := mulD_le hN (x := x2) (y := x3)
  rcases Int.le_total 0 e with g | g
  · have k1 := Int.mul_le_mul_of_nonneg_right hb.1 g
    have k2 := Int.mul_le_mul_of_nonneg_right hb.2 g
    omega
  · have k1 := mrr (m := t1 - t3) (n := e) (by omega) g
    have k2 := mrr (m := t3 - t2) (n := e) (by omega) g
    rw [Int.sub_mul] at k1 k2
    omega
/-- points of one line, in order -/
theorem col_on (hab : a ≠ b) (hp : gsd a b p = 0) (hq : gsd a b q = 0) (hr : gsd a b r = 0) (h : tau a b p ≤ tau a b r ∧ tau a b r ≤ tau a b q) : gon p q r = true := by
  have hN := tau_pos hab
  have p1 := tau_1 hp
  have p2 := tau_2 hp
  have q1 := tau_1 hq
  have q2 := tau_2 hq
  have r1 := tau_1 hr
  have r2 := tau_2 hr
  clear hp hq hr
  generalize tau a b b = N at *
  generalize tau a b p = t1 at *
  generalize tau a b q = t2 at *
  generalize tau a b r = t3 at *
  have c1 := col_box hN p1 q1 r1 h
  have c2 := col_box hN p2 q2 r2 h
  refine gon_iff.2 ⟨by omega, ?_⟩
  have k : N * N * gsd p q r = 0 := by
    have e : N * N * gsd p q r = (N * (q.1 - a.1) - N * (p.1 - a.1)) * (N * (r.2 - a.2) - N * (p.2 - a.2)) - (N * (q.2 - a.2) - N * (p.2 - a.2)) * (N * (r.1 - a.1) - N * (p.1 - a.1)) := by unfold gsd; grind
    rw [e, p1, p2, q1, q2, r1, r2]
    grind
  exact (mulD_zero hN).1 k
/-- **two segments with a point in common meet** -/
theorem gmt_point (h1 : gon P Q X = true) (h2 : gon a b X = true) : gmt P Q a b = true := by
  cases hm : gmt P Q a b with
  | true => rfl
  | false =>
    exfalso
    obtain ⟨g1, g2, g3, g4, g5⟩ := gmt_f hm
    obtain ⟨n, k, k0, kn, n0, e1, e2⟩ := gon_par h1
    obtain ⟨m, j, j0, jm, m0, f1, f2⟩ := gon_par h2
    have i3 := se3 (P := P) (Q := Q) (a := a) (b := b)
    have zX := (gon_iff.1 h2).2
    have zY := (gon_iff.1 h1).2
    have c1 : (n - k) * gsd a b P + k * gsd a b Q = 0 := by
      have : n * gsd a b X = (n - k) * gsd a b P + k * gsd a b Q := by unfold gsd; grind
      rw [← this, zX, Int.mul_zero]
    have c2 : (m - j) * gsd P Q a + j * gsd P Q b = 0 := by
      have : m * gsd P Q X = (m - j) * gsd P Q a + j * gsd P Q b := by unfold gsd; grind
      rw [← this, zY, Int.mul_zero]
    have cz : ∀ {n x y : Int}, 0 < n → n * x = n * y → x = y := fun hn h => Int.eq_of_mul_eq_mul_left (by omega) h
    have hk0 : k ≠ 0 := fun h => by
      subst h
      have : X = P := Prod.ext (cz n0 (by rw [e1]; grind)) (cz n0 (by rw [e2]; grind))
      rw [this, g3] at h2; cases h2
    have hkn : k ≠ n := fun h => by
      subst h
      have : X = Q := Prod.ext (cz n0 (by rw [e1]; omega)) (cz n0 (by rw [e2]; omega))
      rw [this, g4] at h2; cases h2
    have hj0 : j ≠ 0 := fun h => by
      subst h
      have : X = a := Prod.ext (cz m0 (by rw [f1]; grind)) (cz m0 (by rw [f2]; grind))
      rw [this, g1] at h1; cases h1
    have hjm : j ≠ m := fun h => by
      subst h
      have : X = b := Prod.ext (cz m0 (by rw [f1]; omega)) (cz m0 (by rw [f2]; omega))
      rw [this, g2] at h1; cases h1
    have opp : ∀ {x y s t : Int}, 0 < s → 0 < t → s * x + t * y = 0 → (x = 0 ∧ y = 0) ∨ (0 < x ∧ y < 0) ∨ (x < 0 ∧ 0 < y) := by
      intro x y s t hs ht h
      rcases Int.lt_trichotomy x 0 with g | g | g
      · have := mpn hs g
        have := pos_of_mul (m := t) (n := y) (by omega) (by omega)
        omega
      · subst g
        rw [Int.mul_zero] at h
        rcases Int.mul_eq_zero.1 (show t * y = 0 by omega) with g | g <;> omega
      · have := mpp hs g
        have := neg_of_mul (m := t) (n := y) (by omega) (by omega)
        omega
    have o1 := opp (by omega) (by omega) c1
    have o2 := opp (by omega) (by omega) c2
    have hz : gsd a b P = 0 ∧ gsd a b Q = 0 := by omega
    clear o1 o2 g5 c1 c2 i3
    have hab : a ≠ b := fun h => by
      subst h
      have := gon_deg h2
      subst this
      rw [g1] at h1; cases h1
    have hN := tau_pos hab
    have tX : n * tau a b X = (n - k) * tau a b P + k * tau a b Q := by unfold tau; grind
    have tY : m * tau a b X = j * tau a b b := by unfold tau; grind
    have za := gsd_a a b
    have zb := gsd_b a b
    have ta : tau a b a = 0 := by unfold tau; grind
    have w1 : ¬ (0 ≤ tau a b P ∧ tau a b P ≤ tau a b b) := fun h => by rw [col_on hab za zb hz.1 (by rw [ta]; exact h)] at g3; cases g3
    have w2 : ¬ (0 ≤ tau a b Q ∧ tau a b Q ≤ tau a b b) := fun h => by rw [col_on hab za zb hz.2 (by rw [ta]; exact h)] at g4; cases g4
    have w3 : ¬ (tau a b P ≤ 0 ∧ 0 ≤ tau a b Q) := fun h => by rw [col_on hab hz.1 hz.2 za (by rw [ta]; exact h)] at g1; cases g1
    have w4 : ¬ (tau a b Q ≤ 0 ∧ 0 ≤ tau a b P) := fun h => by rw [gon_swap, col_on hab hz.2 hz.1 za (by rw [ta]; exact h)] at g1; cases g1
    have x0 : 0 < tau a b X := pos_of_mul (m := m) (by omega) (by rw [tY]; exact mpp (by omega) hN)
    have x1 : tau a b X < tau a b b := by
      have : 0 < m * (tau a b b - tau a b X) := by
        rw [Int.mul_sub, tY, ← Int.sub_mul]; exact mpp (by omega) hN
      have := pos_of_mul (m := m) (by omega) this
      omega
    generalize tau a b P = tp at *
    generalize tau a b Q = tq at *
    generalize tau a b X = tx at *
    generalize tau a b b = N at *
    -- P and Q on one side of both a and b
    rcases (show (N < tp ∧ N < tq) ∨ (tp < 0 ∧ tq < 0) by omega) with g | g
    · have s1 := mpp (m := n - k) (n := tp - N) (by omega) (by omega)
      have s2 := mpp (m := k) (n := tq - N) (by omega) (by omega)
      have s3 : n * (tx - N) = (n - k) * (tp - N) + k * (tq - N) := by rw [Int.mul_sub, tX]; grind
      have s4 := mpn (m := n) (n := tx - N) (by omega) (by omega)
      omega
    · have s1 := mpn (m := n - k) (n := tp) (by omega) (by omega)
      have s2 := mpn (m := k) (n := tq) (by omega) (by omega)
      have s3 := mpp (m := n) (n := tx) (by omega) (by omega)
      omega
theorem gon_trans (h1 : gon P Q X = true) (h2 : gon P X Y = true) : gon P Q Y = true := by
  obtain ⟨b1, z1⟩ := gon_iff.1 h1
  obtain ⟨b2, z2⟩ := gon_iff.1 h2
  refine gon_iff.2 ⟨by omega, ?_⟩
  by_cases e : X = P
  · subst e
    have := gon_deg h2
    subst this
    exact gsd_a _ _
  · have k1 : (X.1 - P.1) * gsd P Q Y = 0 := by unfold gsd at z1 z2 ⊢; grind
    have k2 : (X.2 - P.2) * gsd P Q Y = 0 := by unfold gsd at z1 z2 ⊢; grind
    rcases Int.mul_eq_zero.1 k1 with g | g
    · rcases Int.mul_eq_zero.1 k2 with g' | g'
      · exact absurd (Prod.ext (by omega) (by omega)) e
      · exact g'
    · exact g
/-- what a part of a segment meets, it meets -/
theorem gmt_sub (h1 : gon P Q X = true) (h : gmt P X a b = true) : gmt P Q a b = true := by
  obtain ⟨D, Y, hD, g1, g2⟩ := gmt_common h
  rw [← gmt_scl hD]
  exact gmt_point (gon_trans (by rw [gon_scl hD]; exact h1) g1) g2
end
end PF
namespace Go.Proofs.YtcoeiimohkofjaaGreat
open Go.RowKit PF JR
end Go.Proofs.YtcoeiimohkofjaaGreat
set_option linter.unusedSimpArgs false
set_option linter.unusedVariables false
/-! Scene polygons, plain: rings that stand apart; the points on their edges. -/
namespace Go.Proofs.YtcoeiimohkofjaaGreat
open Go.RowKit PF JR
section
variable {l h : List (Int × Int)} {p : Int × Int}
theorem sim_nx (hs : simB l = true) {k : Nat} (hk : k < l.length) : at' l k ≠ nxp l k := by
  unfold simB at hs
  simp only [Bool.and_eq_true, decide_eq_true_eq, Bool.not_eq_true'] at hs
  have h4 := anyN_pre hs.2.2.2 hk
  unfold sbd sbd1 at h4
  simp only [Bool.or_eq_false_iff, decide_eq_false_iff_not] at h4
  exact h4.1.1
/-- a simple ring is not closed -/
theorem sim_seg (hs : simB l = true) : nSeg true l = l.length := by
  have h3 := (sim_bs hs).1
  unfold nSeg
  rw [if_pos rfl, if_neg (by omega)]
  split
  · rename_i hc
    exfalso
    refine sim_nx hs (k := l.length - 1) (by omega) ?_
    rw [nxp_end (by omega)]
    unfold at'
    rw [List.getD_eq_getElem?_getD, List.getD_eq_getElem?_getD, hc]
  · rfl
theorem has_t (h3 : 3 ≤ l.length) : ringHas l p true = true ↔ aon l p l.length = true ∨ xrs l p l.length = true := by
  rw [ringHas_al true h3]
  cases aon l p l.length <;> cases xrs l p l.length <;> simp
/-- no edge of one ring meets one of the other -/
def Apt (l h : List (Int × Int)) : Prop := ∀ i k, i < l.length → k < h.length → gmt (at' l i) (nxp l i) (at' h k) (nxp h k) = false
theorem Apt.symm (a : Apt l h) : Apt h l := fun i k hi hk => by rw [gmt_sym]; exact a k i hk hi
theorem aon_no {n : Nat} (h1 : ∀ k, k < n → gon (at' l k) (nxp l k) p = false) : aon l p n = false := aon_none n fun k hk => by
  show rcOn _ _ _ _ _ _ = false
  rw [← gon_rc]; exact h1 k hk
theorem aon_edge {k n : Nat} (hk : k < n) (hg : gon (at' l k) (nxp l k) p = true) : aon l p n = true := by
  refine aon_mono (k := k + 1) ?_ n (by omega)
  rw [aon]
  have : ron l p k = true := by
    show rcOn _ _ _ _ _ _ = true
    rw [← gon_rc]; exact hg
  rw [this, Bool.or_true]
theorem Apt.off (a : Apt l h) {k : Nat} (hk : k < l.length) : aon h (at' l k) h.length = false := aon_no fun j hj => by
  cases e : gon (at' h j) (nxp h j) (at' l k) with
  | false => rfl
  | true =>
    have := a k j hk hj
    rw [gmt_3 e] at this
    cases this
/-- all corners of a ring are on the same side of another one -/
theorem Apt.side (a : Apt l h) (h0 : 0 < h.length) : ∀ k, k < l.length → xrs h (at' l k) h.length = xrs h (at' l 0) h.length := by
  intro k
  induction k with
  | zero => intro _; rfl
  | succ k ih =>
    intro hk
    rw [← ih (by omega)]
    refine (ring_keep h0 fun j hj => ?_).symm
    have := a k j (by omega) hj
    rw [nxp_mid hk] at this
    exact this
theorem at_of_mem {p : Int × Int} (hp : p ∈ l) : ∃ k, k < l.length ∧ at' l k = p := by
  obtain ⟨k, hk, e⟩ := List.mem_iff_getElem.1 hp
  refine ⟨k, hk, ?_⟩
  unfold at'
  rw [List.getD_eq_getElem?_getD, List.getElem?_eq_getElem hk, e]; rfl
theorem mem_at {k : Nat} (hk : k < l.length) : at' l k ∈ l := List.mem_of_getElem? (at_get hk)
theorem mem_nx {k : Nat} (hk : k < l.length) : nxp l k ∈ l := by
  rcases Nat.lt_or_ge (k + 1) l.length with e | e
  · rw [nxp_mid e]; exact mem_at e
  · rw [nxp_end (by omega)]; exact mem_at (by omega)
/-- a point on an edge of a ring is on the side of another one on which the ring is -/
theorem Apt.edge (a : Apt l h) (h0 : 0 < h.length) {k : Nat} (hk : k < l.length) (hg : gon (at' l k) (nxp l k) p = true) : xrs h p h.length = xrs h (at' l k) h.length ∧ aon h p h.length = false := by
  refine ⟨(ring_keep h0 fun j hj => ?_).symm, aon_no fun j hj => ?_⟩
  · cases e : gmt (at' l k) p (at' h j) (nxp h j) with
    | false => rfl
    | true =>
      have := a k j hk hj
      rw [gmt_sub hg e] at this
      cases this
  · cases e : gon (at' h j) (nxp h j) p with
    | false => rfl
    | true =>
      have := a k j hk hj
      rw [gmt_point hg e] at this
      cases this
end
section
variable {l : List (Int × Int)} {H : List (List (Int × Int))} {p : Int × Int}
/-- what a scene's polygon is -/
structure ScP (l : List (Int × Int)) (H : List (List (Int × Int))) : Prop where
  sim : simB l = true
  hsim : ∀ i, i < H.length → simB (H.getD i []) = true
  out : ∀ i, i < H.length → Apt l (H.getD i [])
  inn : ∀ i, i < H.length → ringHas l (at' (H.getD i []) 0) false = true
  apt : ∀ i j, i < H.length → j < H.length → i ≠ j → Apt (H.getD i []) (H.getD j [])
  off : ∀ i j, i < H.length → j < H.length → i ≠ j → ringHas (H.getD i []) (at' (H.getD j []) 0) false = false
theorem ScP.h3 (S : ScP l H) : 3 ≤ l.length := (sim_bs S.sim).1
theorem ScP.g3 (S : ScP l H) {i : Nat} (hi : i < H.length) : 3 ≤ (H.getD i []).length := (sim_bs (S.hsim i hi)).1
end
end Go.Proofs.YtcoeiimohkofjaaGreat
set_option linter.unusedSimpArgs false
set_option linter.unusedVariables false
/-! Plane geometry: a point on the left of all edges of a simple ring whose corners are is in it; a fan of triangles. -/
namespace PF
section
variable {a b c d p : Int × Int}
theorem up_meet0 {h : Int} (h1 : a.2 ≤ h ∧ h < b.2) (h2 : c.2 ≤ h ∧ h < d.2) (l1 : 0 ≤ gsd a b c) (l2 : 0 ≤ gsd a b d) (l3 : 0 ≤ gsd c d a) (l4 : 0 ≤ gsd c d b) (hca : c.2 ≤ a.2) : gmt a b c d = true := by
  cases hm : gmt a b c d with
  | true => rfl
  | false =>
    exfalso
    obtain ⟨g1, g2, g3, g4, -⟩ := gmt_f hm
    have i1 : (b.2 - a.2) * gsd c d a = (a.2 - c.2) * (gsd a b c - gsd a b d) - (d.2 - c.2) * gsd a b c := by unfold gsd; grind
    have i2 : (b.2 - a.2) * gsd c d b = (b.2 - d.2) * (gsd a b c - gsd a b d) - (d.2 - c.2) * gsd a b d := by unfold gsd; grind
    have i3 : (d.2 - a.2) * gsd c d b + (b.2 - d.2) * gsd c d a = -((d.2 - c.2) * gsd a b d) := by unfold gsd; grind
    have s1 : gsd c d a ≠ 0 := fun hz => by rw [gon_mid (by omega) hz hca (by omega)] at g3; cases g3
    have s2 : b.2 ≤ d.2 → gsd c d b ≠ 0 := fun hh hz => by rw [gon_mid (by omega) hz (by omega) hh] at g4; cases g4
    have t2 : d.2 ≤ b.2 → gsd a b d ≠ 0 := fun hh hz => by rw [gon_mid (by omega) hz (by omega) hh] at g2; cases g2
    generalize gsd a b c = t1 at *
    generalize gsd a b d = t2' at *
    generalize gsd c d a = s1' at *
    generalize gsd c d b = s2' at *
    have k1 := mpp (m := b.2 - a.2) (n := s1') (by omega) (by omega)
    have k2 := mqq (m := d.2 - c.2) (n := t1) (by omega) l1
    have k3 : 0 < t1 - t2' := pos_of_mul (m := a.2 - c.2) (by omega) (by omega)
    rcases Int.le_total b.2 d.2 with g | g
    · have s2 := s2 g
      have k4 := mpp (m := b.2 - a.2) (n := s2') (by omega) (by omega)
      have k5 := mrq (m := b.2 - d.2) (n := t1 - t2') (by omega) (by omega)
      have k6 := mqq (m := d.2 - c.2) (n := t2') (by omega) l2
      omega
    · have t2 := t2 g
      have k4 := mqq (m := d.2 - a.2) (n := s2') (by omega) l4
      have k5 := mqq (m := b.2 - d.2) (n := s1') (by omega) l3
      have k6 := mpp (m := d.2 - c.2) (n := t2') (by omega) (by omega)
      omega
/-- two edges that go up through one height, each on the left of the other, meet -/
theorem up_meet {h : Int} (h1 : a.2 ≤ h ∧ h < b.2) (h2 : c.2 ≤ h ∧ h < d.2) (l1 : 0 ≤ gsd a b c) (l2 : 0 ≤ gsd a b d) (l3 : 0 ≤ gsd c d a) (l4 : 0 ≤ gsd c d b) : gmt a b c d = true := by
  rcases Int.le_total c.2 a.2 with g | g
  · exact up_meet0 h1 h2 l1 l2 l3 l4 g
  · rw [gmt_sym]; exact up_meet0 h2 h1 l3 l4 l1 l2 g
theorem cram1 : gsd a b c * (p.1 - b.1) = gsd a b p * (c.1 - b.1) + gsd b c p * (a.1 - b.1) := by unfold gsd; grind
theorem cram2 : gsd a b c * (p.2 - b.2) = gsd a b p * (c.2 - b.2) + gsd b c p * (a.2 - b.2) := by unfold gsd; grind
/-- a level edge on top -/
theorem top_hor (g1 : 0 ≤ gsd a b p) (g3 : 0 ≤ gsd c d p) (t1 : 0 < gsd a b c) (t2 : 0 < gsd b c d) (ha : a.2 ≤ b.2) (hc : c.2 = b.2) (hd : d.2 ≤ c.2) (hp : p.2 = b.2) : gon b c p = true := by
  have e1 : gsd a b c = (b.2 - a.2) * (b.1 - c.1) := by unfold gsd; rw [hc]; grind
  have e2 : gsd a b p = (b.2 - a.2) * (b.1 - p.1) := by unfold gsd; rw [hp]; grind
  have e3 : gsd b c d = (b.1 - c.1) * (c.2 - d.2) := by unfold gsd; rw [hc]; grind
  have e4 : gsd c d p = (c.2 - d.2) * (p.1 - c.1) := by unfold gsd; rw [hp, hc]; grind
  rw [e1] at t1
  rw [e2] at g1
  rw [e3] at t2
  rw [e4] at g3
  have k1 : 0 < b.1 - c.1 := pos_of_mul (by omega) t1
  have k2 : 0 < b.2 - a.2 := pos_of_mul (m := b.1 - c.1) (by omega) (by rw [Int.mul_comm]; exact t1)
  have k3 : 0 < c.2 - d.2 := pos_of_mul (by omega) t2
  have k4 := sgn_of_mul_pos k2 g1
  have k5 := sgn_of_mul_pos k3 g3
  refine gon_iff.2 ⟨by omega, ?_⟩
  unfold gsd; rw [hp, hc]; simp
end
def pvi (n k : Nat) : Nat := if k = 0 then n - 1 else k - 1
theorem pvi_lt {n k : Nat} (h : k < n) : pvi n k < n := by unfold pvi; split <;> omega
theorem nxi_pvi {n k : Nat} (h : k < n) : nxi n (pvi n k) = k := by
  unfold nxi pvi
  split <;> split <;> omega
theorem nxj_nxi {n k : Nat} (h : k < n) (h3 : 3 ≤ n) : nxj n k = nxi n (nxi n k) := by
  unfold nxj nxi
  split <;> split <;> split <;> omega
end PF
namespace Go.Proofs.YtcoeiimohkofjaaGreat
open Go.RowKit PF JR
section
variable {l : List (Int × Int)} {p P Q : Int × Int}
/-- all corners of a ring are on the left of its edges -/
def Lft (l : List (Int × Int)) : Prop := ∀ k, k < l.length → ∀ q ∈ l, 0 ≤ gsd (at' l k) (nxp l k) q
/-- what is in a ring is on the left of what its corners are on the left of -/
theorem left_has (h3 : 3 ≤ l.length) (hl : ∀ q ∈ l, 0 ≤ gsd P Q q) (hp : ringHas l p true = true) : 0 ≤ gsd P Q p := by
  refine Classical.byContradiction fun hn => ?_
  rcases (has_t h3).1 hp with h | h
  · rw [aon_any, anyN_iff] at h
    obtain ⟨k, hk, e⟩ := h
    exact hn (hp_on (by rw [gon_rc]; exact e) (hl _ (mem_at hk)) (hl _ (mem_nx hk)))
  · have e : xrs l p l.length = false := by
      rw [xrs_xo, xoN_congr (g := fun k => hpf P Q p (at' l k) != hpf P Q p (nxp l k)) fun k hk => by
        show rcIn _ _ _ _ _ _ = _
        rw [← glf_rc]
        exact hp_left (hl _ (mem_at hk)) (hl _ (mem_nx hk)) (by omega)]
      exact xoN_cyc (hpf P Q p) (by omega)
    rw [e] at h; cases h
theorem nxp_nxi (l : List (Int × Int)) (k : Nat) : nxp l k = at' l (nxi l.length k) := rfl
theorem sim_turn (hs : simB l = true) (hL : Lft l) {k : Nat} (hk : k < l.length) : 0 < gsd (at' l k) (nxp l k) (nxp l (nxi l.length k)) := by
  have h3 := (sim_bs hs).1
  have h4 := hL k hk (nxp l (nxi l.length k)) (mem_nx (nxi_lt hk))
  unfold simB at hs
  simp only [Bool.and_eq_true, decide_eq_true_eq, Bool.not_eq_true'] at hs
  have h5 := anyN_pre hs.2.2.2 hk
  unfold sbd sbd1 at h5
  simp only [Bool.or_eq_false_iff, decide_eq_false_iff_not] at h5
  have h6 := h5.1.2
  rw [nxj_nxi hk h3] at h6
  rw [nxp_nxi l (nxi l.length k)] at h4 ⊢
  omega
/-- edges of a simple ring that meet are neighbours -/
theorem sim_meet (hs : simB l = true) {i k : Nat} (hik : i < k) (hk : k < l.length) (hm : gmt (at' l i) (nxp l i) (at' l k) (nxp l k) = true) : k = i + 1 ∨ (i = 0 ∧ k + 1 = l.length) := by
  unfold simB at hs
  simp only [Bool.and_eq_true, decide_eq_true_eq, Bool.not_eq_true'] at hs
  have h5 := anyN_pre hs.2.2.2 (show i < l.length by omega)
  unfold sbd at h5
  rw [Bool.or_eq_false_iff] at h5
  rcases Nat.lt_or_ge k (i + 2) with g | g
  · exact .inl (by omega)
  · have h6 := anyN_pre h5.2 (show k - (i + 2) < l.length - (i + 2) by omega)
    unfold sbd2 at h6
    rw [show i + 2 + (k - (i + 2)) = k by omega, hm, Bool.and_true, Bool.not_eq_false', Bool.and_eq_true, decide_eq_true_iff, decide_eq_true_iff] at h6
    exact .inr h6
/-- **a point on the left of all edges is in the ring** -/
theorem conv_has (hs : simB l = true) (hL : Lft l) (hp : ∀ k, k < l.length → 0 ≤ gsd (at' l k) (nxp l k) p) : ringHas l p true = true := by
  have h3 := (sim_bs hs).1
  rw [has_t h3]
  cases hon : aon l p l.length with
  | true => exact .inl rfl
  | false =>
  right
  have off : ∀ k, k < l.length → gon (at' l k) (nxp l k) p = false := fun k hk => by rw [gon_rc]; exact aon_ron _ hon k hk
  have hup : ∀ k, k < l.length → rin l p k = decide ((at' l k).2 ≤ p.2 ∧ p.2 < (nxp l k).2) := by
    intro k hk
    have g1 := hp k hk
    have g2 := off k hk
    show rcIn _ _ _ _ _ _ = _
    rw [← glf_rc]
    unfold glf
    split
    · rw [gsd_swap]
      exact decide_eq_decide.2 (by omega)
    · refine decide_eq_decide.2 ⟨fun h => ⟨h.1, h.2.1⟩, fun h => ⟨h.1, h.2, ?_⟩⟩
      rcases Int.lt_or_eq_of_le g1 with g | g
      · exact g
      · rw [gon_mid (by omega) g.symm h.1 (by omega)] at g2; cases g2
  have huniq : ∀ i k, i < k → k < l.length → rin l p i = true → rin l p k = true → False := by
    intro i k hik hk hi hk'
    rw [hup i (by omega), decide_eq_true_iff] at hi
    rw [hup k hk, decide_eq_true_iff] at hk'
    have hm := up_meet hi hk' (hL i (by omega) _ (mem_at hk)) (hL i (by omega) _ (mem_nx hk)) (hL k hk _ (mem_at (by omega))) (hL k hk _ (mem_nx (by omega)))
    rcases sim_meet hs hik hk hm with g | ⟨g, g'⟩
    · subst g
      rw [nxp_mid hk] at hi
      omega
    · subst g
      rw [nxp_end g'] at hk'
      omega
  have hex : ∃ k, k < l.length ∧ rin l p k = true := by
    refine Classical.byContradiction fun hno => ?_
    have hnone : ∀ k, k < l.length → ¬ ((at' l k).2 ≤ p.2 ∧ p.2 < (nxp l k).2) := by
      intro k hk h
      exact hno ⟨k, hk, by rw [hup k hk]; exact decide_eq_true h⟩
    have hstep : ∀ i j, i + j < l.length → (at' l i).2 ≤ p.2 → (at' l (i + j)).2 ≤ p.2 := by
      intro i j
      induction j with
      | zero => intro _ h; exact h
      | succ j ih =>
        intro hj h
        have h1 := ih (by omega) h
        have h2 := hnone (i + j) (by omega)
        rw [nxp_mid (by omega)] at h2
        rw [show i + (j + 1) = i + j + 1 by omega]
        omega
    obtain ⟨b1, -, ⟨pb, hpb, eb⟩, -, ⟨pt, hpt, et⟩⟩ := box_spec l (by omega)
    by_cases h0 : (at' l 0).2 ≤ p.2
    · -- all at most as high as p
      have hall : ∀ q ∈ l, q.2 ≤ p.2 := fun q hq => by
        obtain ⟨k, hk, rfl⟩ := at_of_mem hq
        have := hstep 0 k (by omega) h0
        rwa [Nat.zero_add] at this
      obtain ⟨j, hj, rfl⟩ := at_of_mem hpt
      have top : ∀ q ∈ l, q.2 ≤ (at' l j).2 := fun q hq => by have := b1 q hq; omega
      -- a level edge on top
      have hor : ∀ i, i < l.length → (at' l i).2 = (at' l j).2 → (nxp l i).2 = (at' l i).2 → p.2 = (at' l i).2 → False := by
        intro i hi e1 e2 e3
        have q1 := hp (pvi l.length i) (pvi_lt hi)
        have q2 := sim_turn hs hL (pvi_lt hi)
        have q3 := hp (nxi l.length i) (nxi_lt hi)
        have q4 := sim_turn hs hL hi
        rw [nxp_nxi l (pvi l.length i), nxi_pvi hi] at q1 q2
        rw [← nxp_nxi l i] at q3
        have := top_hor q1 q3 q2 q4 (by have := top _ (mem_at (pvi_lt hi)); omega) e2 (by have := top _ (mem_nx (nxi_lt hi)); omega) e3
        rw [off i hi] at this
        cases this
      have q1 := hp (pvi l.length j) (pvi_lt hj)
      have q2 := sim_turn hs hL (pvi_lt hj)
      have q3 := hp j hj
      have hlast : (nxp l (pvi l.length j)) = at' l j := by rw [nxp_nxi, nxi_pvi hj]
      rw [nxp_nxi l (pvi l.length j), nxi_pvi hj] at q1 q2
      have c2 := cram2 (a := at' l (pvi l.length j)) (b := at' l j) (c := nxp l j) (p := p)
      have c1 := cram1 (a := at' l (pvi l.length j)) (b := at' l j) (c := nxp l j) (p := p)
      have t1 := top _ (mem_at (pvi_lt hj))
      have t2 := top _ (mem_nx hj)
      have t3 := hall _ (mem_at hj)
      have k1 := mqr q1 (show (nxp l j).2 - (at' l j).2 ≤ 0 by omega)
      have k2 := mqr q3 (show (at' l (pvi l.length j)).2 - (at' l j).2 ≤ 0 by omega)
      have k3 : p.2 = (at' l j).2 := by
        rcases Int.lt_or_eq_of_le t3 with g | g
        · have := mpp q2 (show 0 < p.2 - (at' l j).2 by omega); omega
        · exact g.symm
      rw [show p.2 - (at' l j).2 = 0 by omega, Int.mul_zero] at c2
      by_cases f1 : (nxp l j).2 = (at' l j).2
      · exact hor j hj rfl f1 k3
      · by_cases f2 : (at' l (pvi l.length j)).2 = (at' l j).2
        · exact hor _ (pvi_lt hj) f2 (by rw [hlast]; exact f2.symm) (by omega)
        · have z1 := (Int.mul_eq_zero.1 (show gsd (at' l (pvi l.length j)) (at' l j) p * ((nxp l j).2 - (at' l j).2) = 0 by omega)).resolve_right (by omega)
          have z2 := (Int.mul_eq_zero.1 (show gsd (at' l j) (nxp l j) p * ((at' l (pvi l.length j)).2 - (at' l j).2) = 0 by omega)).resolve_right (by omega)
          rw [z1, z2, Int.zero_mul, Int.zero_mul] at c1
          have z3 := (Int.mul_eq_zero.1 c1).resolve_left (by omega)
          have : p = at' l j := Prod.ext (by omega) k3
          have := off j hj
          rw [show p = at' l j from Prod.ext (by omega) k3, gon_a] at this
          cases this
    · -- all higher than p
      have hall : ∀ q ∈ l, p.2 < q.2 := fun q hq => by
        obtain ⟨k, hk, rfl⟩ := at_of_mem hq
        rcases Int.lt_or_le p.2 (at' l k).2 with g | g
        · exact g
        · have h1 := hstep k (l.length - 1 - k) (by omega) g
          rw [show k + (l.length - 1 - k) = l.length - 1 by omega] at h1
          have h2 := hnone (l.length - 1) (by omega)
          rw [nxp_end (by omega)] at h2
          omega
      obtain ⟨j, hj, rfl⟩ := at_of_mem hpb
      have q1 := hp (pvi l.length j) (pvi_lt hj)
      have q2 := sim_turn hs hL (pvi_lt hj)
      have q3 := hp j hj
      rw [nxp_nxi l (pvi l.length j), nxi_pvi hj] at q1 q2
      have c2 := cram2 (a := at' l (pvi l.length j)) (b := at' l j) (c := nxp l j) (p := p)
      have t1 := (b1 _ (mem_at (pvi_lt hj))).2.1
      have t2 := (b1 _ (mem_nx hj)).2.1
      have t3 := hall _ (mem_at hj)
      have k1 := mqq q1 (show 0 ≤ (nxp l j).2 - (at' l j).2 by omega)
      have k2 := mqq q3 (show 0 ≤ (at' l (pvi l.length j)).2 - (at' l j).2 by omega)
      have k3 := mpn q2 (show p.2 - (at' l j).2 < 0 by omega)
      omega
  obtain ⟨k0, hk0, e0⟩ := hex
  rw [xrs_xo, xoN_congr (g := fun k => decide (k = k0)) fun k hk => ?_, xoN_one hk0]
  by_cases g : k = k0
  · rw [g, e0, decide_eq_true rfl]
  · rw [decide_eq_false g]
    cases e : rin l p k with
    | false => rfl
    | true =>
      exfalso
      rcases Nat.lt_or_ge k k0 with h | h
      · exact huniq k k0 h hk0 e e0
      · exact huniq k0 k (by omega) hk e0 e
/-- the triangles of a fan -/
def tri (l : List (Int × Int)) (i : Nat) : List (Int × Int) := [at' l 0, at' l (i + 1), at' l (i + 2)]
theorem fan_xo (h3 : 3 ≤ l.length) (p : Int × Int) : xrs l p l.length = xoN (fun i => xrs (tri l i) p 3) (l.length - 2) := by
  have hr : ∀ k, k + 1 < l.length → rin l p k = glf (at' l k) (at' l (k + 1)) p := fun k hk => by
    rw [glf_rc, ← nxp_mid hk]; rfl
  have ht : ∀ i, xrs (tri l i) p 3 = (((false != glf (at' l 0) (at' l (i + 1)) p) != glf (at' l (i + 1)) (at' l (i + 2)) p) != glf (at' l (i + 2)) (at' l 0) p) := fun i => by
    rw [glf_rc, glf_rc, glf_rc]; rfl
  have key : ∀ m, m + 2 ≤ l.length → xrs l p (m + 1) = (xoN (fun i => xrs (tri l i) p 3) m != glf (at' l 0) (at' l (m + 1)) p) := by
    intro m
    induction m with
    | zero => intro h; rw [xrs, xrs, hr 0 (by omega), xoN]
    | succ m ih =>
      intro h
      rw [xrs, ih (by omega), hr (m + 1) (by omega), xoN, ht m, glf_swap (at' l 0) (at' l (m + 2))]
      cases xoN (fun i => xrs (tri l i) p 3) m <;> cases glf (at' l 0) (at' l (m + 1)) p <;> cases glf (at' l (m + 1)) (at' l (m + 2)) p <;> cases glf (at' l 0) (at' l (m + 2)) p <;> rfl
  obtain ⟨n, hn⟩ : ∃ n, l.length = n + 2 := ⟨l.length - 2, by omega⟩
  have hl : rin l p (n + 1) = glf (at' l (n + 1)) (at' l 0) p := by
    rw [glf_rc, ← nxp_end (show n + 1 + 1 = l.length by omega)]; rfl
  rw [hn, Nat.add_sub_cancel, xrs, key n (by omega), hl, glf_swap (at' l 0) (at' l (n + 1))]
  cases xoN (fun i => xrs (tri l i) p 3) n <;> cases glf (at' l 0) (at' l (n + 1)) p <;> rfl
theorem xoN_some {f : Nat → Bool} {n : Nat} (h : xoN f n = true) : ∃ k, k < n ∧ f k = true := by
  refine Classical.byContradiction fun hno => ?_
  rw [xoN_none fun k hk => by
    cases e : f k with
    | false => rfl
    | true => exact absurd ⟨k, hk, e⟩ hno] at h
  cases h
/-- **a point is in a convex ring just if it is in a triangle of its fan** -/
theorem fan_law (hs : simB l = true) (hL : Lft l) (p : Int × Int) : ringHas l p true = anyN (fun i => ringHas (tri l i) p true) (l.length - 2) := by
  have h3 := (sim_bs hs).1
  rw [Bool.eq_iff_iff, anyN_iff]
  constructor
  · intro h
    rcases (has_t h3).1 h with g | g
    · rw [aon_any, anyN_iff] at g
      obtain ⟨k, hk, e⟩ := g
      have e' : gon (at' l k) (nxp l k) p = true := by rw [gon_rc]; exact e
      by_cases k0 : k = 0
      · subst k0
        refine ⟨0, by omega, (has_t (l := tri l 0) (by simp [tri])).2 (.inl ?_)⟩
        rw [nxp_mid (by omega)] at e'
        exact aon_edge (k := 0) (by simp [tri]) e'
      · by_cases k1 : k + 1 = l.length
        · refine ⟨k - 2, by omega, (has_t (l := tri l (k - 2)) (by simp [tri])).2 (.inl ?_)⟩
          rw [nxp_end k1] at e'
          refine aon_edge (k := 2) (by simp [tri]) ?_
          show gon (at' l (k - 2 + 2)) (at' l 0) p = true
          rw [show k - 2 + 2 = k by omega]
          exact e'
        · refine ⟨k - 1, by omega, (has_t (l := tri l (k - 1)) (by simp [tri])).2 (.inl ?_)⟩
          rw [nxp_mid (by omega)] at e'
          refine aon_edge (k := 1) (by simp [tri]) ?_
          show gon (at' l (k - 1 + 1)) (at' l (k - 1 + 2)) p = true
          rw [show k - 1 + 1 = k by omega, show k - 1 + 2 = k + 1 by omega]
          exact e'
    · rw [fan_xo h3] at g
      obtain ⟨i, hi, e⟩ := xoN_some g
      exact ⟨i, hi, (has_t (l := tri l i) (by simp [tri])).2 (.inr e)⟩
  · rintro ⟨i, hi, e⟩
    refine conv_has hs hL fun k hk => left_has (l := tri l i) (by simp [tri]) (fun q hq => hL k hk q ?_) e
    simp only [tri, List.mem_cons, List.not_mem_nil, or_false] at hq
    rcases hq with h | h | h
    · rw [h]; exact mem_at (by omega)
    · rw [h]; exact mem_at (by omega)
    · rw [h]; exact mem_at (by omega)
end
end Go.Proofs.YtcoeiimohkofjaaGreat
set_option linter.unusedSimpArgs false
set_option linter.unusedVariables false
/-! spec.polyUp, IsConvexRing: what it says yes to has its corners on the left of its edges (printed by gen/zz.py from zh.walk). -/
namespace Go.Proofs.YtcoeiimohkofjaaGreat
open Go Go.RowKit PF JR
/-- some truth value comes back, of which this is known -/
def BoolQ (P : Bool → Prop) (w : World) (e : Ending) (w' : World) : Prop := ∃ b : Bool, e = .returned (.bool b) ∧ P b ∧ Below w.heap.size w w'
set_option maxRecDepth 100000 in
set_option maxHeartbeats 4000000 in
theorem pup_c (a b c d : Int) (w : World) :
    Calls Tryz.prog 51 #[.agg #[.int .i64 a, .int .i64 b, .int .i64 c, .int .i64 d]] w fun e w' => BoolQ (fun _ => True) w e w' := by
  have st0 := (Blk.nil w).push rfl #[.int .i64 a, .int .i64 b, .int .i64 c, .int .i64 d] 42
  have z0 := st0.cell 0 rfl 0
  have z1 := st0.cell 0 rfl 1
  have z2 := st0.cell 0 rfl 2
  have z3 := st0.cell 0 rfl 3
  simp only [List.getElem?_toArray, List.getElem?_cons_zero, List.getElem?_cons_succ] at z0 z1 z2 z3
  go_enter Tryz.func51, Tryz.ntmps51
  by_cases h1 : b < d
  · have d1 := decide_eq_true h1
    go_wp2
    go_ret
    exact ⟨_, rfl, trivial, st0.hb⟩
  · have d1 := decide_eq_false h1
    by_cases h2 : d = b
    · subst h2
      have d2 : (d == d) = true := by simp
      by_cases h3 : a < c
      · have d3 := decide_eq_true h3
        go_wp2
        go_ret
        exact ⟨_, rfl, trivial, st0.hb⟩
      · have d3 := decide_eq_false h3
        go_wp2
        go_ret
        exact ⟨_, rfl, trivial, st0.hb⟩
    · have d2 : (d == b) = false := by simp [h2]
      go_wp2
      go_ret
      exact ⟨_, rfl, trivial, st0.hb⟩
/-- all corners of a ring are on the left of its segments -/
def LftN (l : List (Int × Int)) (n : Nat) : Prop := ∀ k, k < n → ∀ q ∈ l, 0 ≤ gsd (at' l k) (nxp l k) q
theorem nxiN_mod {n k : Nat} (h : k < n) : Int.tmod ((k : Int) + 1) (n : Int) = (nxi n k : Nat) := nxi_mod h
set_option maxRecDepth 100000 in
set_option maxHeartbeats 16000000 in
theorem icr_c (l : List (Int × Int)) (hl : ∀ p ∈ l, Bs p) (h31 : l.length ≤ 900000000) (v : Value) (w : World) (hv : SlP w v l) :
    Calls Tryz.prog 23 #[v] w fun e w' => BoolQ (fun b => b = true → 3 ≤ nSeg true l ∧ LftN l (nSeg true l)) w e w' := by
  have hb1 : ∀ k, Bs (nxp l k) := fun k => by unfold nxp; exact at_bs hl _
  have hsd := fun (a b p : Int × Int) (ha : Bs a) (hb : Bs b) (hp : Bs p) (u : World) => gsd_c (a := a) (b := b) (p := p) ha hb hp u
  have hped := fun u hu => ped_c l h31 v u hu
  obtain ⟨A, c, rfl, hk⟩ := id hv
  have hS : nSeg true l ≤ 900000000 := by unfold nSeg; split <;> (try split) <;> (try split) <;> omega
  generalize nSeg true l = N at *
  go_enter Tryz.func23, Tryz.ntmps23
  go_wp2_with (go_at_call 50; refine JR.StopY.out ?_)
  refine ⟨?_⟩
  refine (hped _ hv).mono ?_
  rintro e w1 ⟨v', rfl, hE, hbB⟩
  obtain ⟨A', c', rfl, -⟩ := id hE
  clear hped
  by_cases h3 : N < 3
  · have d3 : decide ((N : Int) < 3) = true := decide_eq_true (by omega)
    have h3' : (N : Int) < 3 := by omega
    go_wp2
    go_ret
    exact ⟨false, rfl, fun h => Bool.noConfusion h, hbB⟩
  have h3' : ¬ (N : Int) < 3 := by omega
  have d3 : decide ((N : Int) < 3) = false := decide_eq_false h3'
  generalize hnl : l.length = nl at *
  go_wp2
  go_loopw [4, 5, 18] (fun ar ro i wr => ∃ (k : Nat) (x y : Int), k ≤ N ∧ ar = .int .i64 x ∧ ro = .int .i64 y ∧ i = .int .i64 k ∧ LftN l k ∧ Below w1.heap.size w1 wr) (fun _ _ i _ => N - (intOf i).toNat)
  case atStart => exact ⟨0, 0, 0, Nat.zero_le _, rfl, rfl, rfl, fun k hk => absurd hk (Nat.not_lt_zero _), Below.refl _ _⟩
  case round =>
    obtain ⟨k, x, y, hkl, rfl, rfl, rfl, hL, hB⟩ := hrel
    have hBw := hbB.trans (hB.mono hbB.size)
    rcases Nat.lt_or_ge k N with hlt | hge
    · have hE1 := hE.below hB
      obtain ⟨A2, c2, hAc, hkE⟩ := id hE1
      cases hAc
      obtain ⟨bb, rfl, g1, g2, g3, g4⟩ := hkE k hlt
      obtain ⟨bb', eb, n1, n2, n3, n4⟩ := hkE (nxi N k) (nxi_lt hlt)
      obtain ⟨bb0, eb0, f1, f2, -, -⟩ := hkE 0 (by omega)
      cases eb
      cases eb0
      have hmod := nxiN_mod hlt
      have hjl := nxi_lt hlt
      generalize nxi N k = jn at *
      simp only [Nat.zero_add, Nat.zero_mul] at g1 g2 g3 g4 n1 n2 n3 n4 f1 f2
      have hq1 := fun u => hsd (at' l k) (nxp l k) (nxp l jn) (at_bs hl _) (hb1 _) (hb1 _) u
      have hq2 := fun q hq u => hsd (at' l k) (nxp l k) (at' l q) (at_bs hl _) (hb1 _) hq u
      have hq3 := fun u => hsd (at' l 0) (at' l k) (nxp l k) (at_bs hl _) (at_bs hl _) (hb1 _) u
      have hlt' : (k : Int) < (N : Int) := by omega
      have hjl' : (jn : Int) < (N : Int) := by omega
      have hN0 : ¬ N = 0 := by omega
      have hN0' : ¬ (N : Int) = 0 := by omega
      have h0N : (0 : Int) < (N : Int) := by omega
      have hw1 : Go.IntKind.i64.wrap ((k : Int) + 1) = (k : Int) + 1 := wrapS (by omega)
      have hw2 : Go.IntKind.i64.wrap ((jn : Nat) : Int) = ((jn : Nat) : Int) := wrapS (by omega)
      obtain ⟨pa, hpa⟩ : ∃ x, at' l k = x := ⟨_, rfl⟩
      obtain ⟨pb, hpb⟩ : ∃ x, nxp l k = x := ⟨_, rfl⟩
      obtain ⟨pc, hpc⟩ : ∃ x, at' l jn = x := ⟨_, rfl⟩
      obtain ⟨pd, hpd⟩ : ∃ x, nxp l jn = x := ⟨_, rfl⟩
      obtain ⟨pz, hpz⟩ : ∃ x, at' l 0 = x := ⟨_, rfl⟩
      simp only [hpa, hpb, hpc, hpd, hpz] at g1 g2 g3 g4 n1 n2 n3 n4 f1 f2 hq1 hq2 hq3
      have hlstep : (∀ q ∈ l, 0 ≤ gsd pa pb q) → LftN l (k + 1) := by
        intro h j hj q hq
        rcases Nat.lt_or_ge j k with g | g
        · exact hL j g q hq
        · obtain rfl : j = k := by omega
          rw [hpa, hpb]; exact h q hq
      clear hpa hpb hpc hpd hpz
      -- the two edges, laid by
      have st2 := ((Blk.nil wr).push rfl #[.int .i64 pa.1, .int .i64 pa.2, .int .i64 pb.1, .int .i64 pb.2] 42).push (b := wr.heap.size + 1) (by simp) #[.int .i64 pc.1, .int .i64 pc.2, .int .i64 pd.1, .int .i64 pd.2] 42
      have st1 := (Blk.nil wr).push rfl #[.int .i64 pa.1, .int .i64 pa.2, .int .i64 pb.1, .int .i64 pb.2] 42
      have n1' := (st1.hb.cell (World.block_lt_of_cell? _ _ n1)).trans n1
      have n2' := (st1.hb.cell (World.block_lt_of_cell? _ _ n2)).trans n2
      have n3' := (st1.hb.cell (World.block_lt_of_cell? _ _ n3)).trans n3
      have n4' := (st1.hb.cell (World.block_lt_of_cell? _ _ n4)).trans n4
      have f1' := (st2.hb.cell (World.block_lt_of_cell? _ _ f1)).trans f1
      have f2' := (st2.hb.cell (World.block_lt_of_cell? _ _ f2)).trans f2
      go_upto_region 9 with (fail)
      clear n1 n2 n3 n4 n1' n2' n3' n4' g1 g2 g3 g4 f1 f2 st1
      have hB2 := hBw.trans (st2.hb.mono hBw.size)
      have x0 := st2.cell 1 rfl 0
      have x1 := st2.cell 1 rfl 1
      have x2 := st2.cell 1 rfl 2
      have x3 := st2.cell 1 rfl 3
      simp only [List.getElem?_toArray, List.getElem?_cons_zero, List.getElem?_cons_succ] at x0 x1 x2 x3
      have y0 := st2.cell 0 rfl 0
      have y1 := st2.cell 0 rfl 1
      have y2 := st2.cell 0 rfl 2
      have y3 := st2.cell 0 rfl 3
      simp only [List.getElem?_toArray, List.getElem?_cons_zero, List.getElem?_cons_succ] at y0 y1 y2 y3
      by_cases hpe : pa = pb
      · have q9 := fun u => eqGP (p := pa) (q := pb) (b := true) (decide_eq_true hpe) u
        clear hpe hq1 hq2 hq3 hlstep
        go_wp2
        go_ret
        exact ⟨false, rfl, fun h => Bool.noConfusion h, hB2⟩
      have q9 := fun u => eqGP (p := pa) (q := pb) (b := false) (decide_eq_false hpe) u
      clear hpe
      go_wp2_with (go_at_call 41; refine JR.StopY.out ?_)
      refine ⟨?_⟩
      refine (hq1 _).mono ?_
      rintro e w3 ⟨rfl, hb⟩
      have st3 := st2.ext hb
      have hf1 := (hb.cell (World.block_lt_of_cell? _ _ f1')).trans f1'
      have hf2 := (hb.cell (World.block_lt_of_cell? _ _ f2')).trans f2'
      have hB3 := hB2.trans (hb.mono hB2.size)
      clear f1' f2' hb st2 q9 hq1 hB2 x0 x1 x2 x3 y0 y1 y2 y3
      obtain ⟨sg, hsg⟩ : ∃ z, gsd pa pb pd = z := ⟨_, rfl⟩
      rw [hsg]
      by_cases hs0 : sg < (0 : Int)
      · have ds := decide_eq_true hs0
        go_wp2
        go_ret
        exact ⟨false, rfl, fun h => Bool.noConfusion h, hB3⟩
      have ds := decide_eq_false hs0
      generalize hwr0 : wr = w0 at *
      generalize hb7 : w0.heap.size = b7 at *
      go_wp2
      clear ds hs0 hsg
      go_loopw [48] (fun i wr => ∃ j : Nat, j ≤ nl ∧ i = .int .i64 j ∧ (∀ q, q < j → 0 ≤ gsd pa pb (at' l q)) ∧ Blk w0 wr [(b7 + 1, #[.int .i64 pc.1, .int .i64 pc.2, .int .i64 pd.1, .int .i64 pd.2], 42), (b7, #[.int .i64 pa.1, .int .i64 pa.2, .int .i64 pb.1, .int .i64 pb.2], 42)] ∧ Below w3.heap.size w3 wr) (fun i _ => nl - (intOf i).toNat)
      case atStart => exact ⟨0, Nat.zero_le _, rfl, fun q hq => absurd hq (Nat.not_lt_zero _), st3, Below.refl _ _⟩
      case round =>
        clear st3
        obtain ⟨j, hjl2, rfl, hall, st, hB4⟩ := hrel
        have hB5 := hB3.trans (hB4.mono hB3.size)
        rcases Nat.lt_or_ge j nl with hlt2 | hge2
        · obtain ⟨bb2, off2, rfl, m1, m2⟩ := hk j _ (at_get (by omega))
          have m1 := (hB5.cell (World.block_lt_of_cell? _ _ m1)).trans m1
          have m2 := (hB5.cell (World.block_lt_of_cell? _ _ m2)).trans m2
          have hq4 := fun u => hq2 j (at_bs hl _) u
          obtain ⟨pq, hpq⟩ : ∃ x, at' l j = x := ⟨_, rfl⟩
          simp only [hpq] at m1 m2 hq4
          have hjn : (j : Int) < (nl : Int) := by omega
          have st5 := st.push (b := wr.heap.size) rfl #[.int .i64 pq.1, .int .i64 pq.2] 27
          have hB6 := hB4.alloc hB4.size (.cells #[.int .i64 pq.1, .int .i64 pq.2] 27)
          have hB7 := hB5.alloc hB5.size (.cells #[.int .i64 pq.1, .int .i64 pq.2] 27)
          have x0 := st5.cell 2 rfl 0
          have x1 := st5.cell 2 rfl 1
          have x2 := st5.cell 2 rfl 2
          have x3 := st5.cell 2 rfl 3
          simp only [List.getElem?_toArray, List.getElem?_cons_zero, List.getElem?_cons_succ] at x0 x1 x2 x3
          have y0 := st5.cell 0 rfl 0
          have y1 := st5.cell 0 rfl 1
          simp only [List.getElem?_toArray, List.getElem?_cons_zero, List.getElem?_cons_succ] at y0 y1
          clear st hq2 hq3 hlstep
          go_wp2_with (go_at_call 41; refine JR.StopY.out ?_)
          refine ⟨?_⟩
          refine (hq4 _).mono ?_
          rintro e w5 ⟨rfl, hb⟩
          have st6 := (st5.ext hb).tail
          have hB8 := hB6.trans (hb.mono hB6.size)
          have hB9 := hB7.trans (hb.mono hB7.size)
          clear hb st5 hB6 hB7 hq4 m1 m2 x0 x1 x2 x3 y0 y1
          obtain ⟨sg2, hsg2⟩ : ∃ z, gsd pa pb pq = z := ⟨_, rfl⟩
          rw [hsg2]
          by_cases hs0 : sg2 < (0 : Int)
          · have ds := decide_eq_true hs0
            go_wp2
            go_ret
            exact ⟨false, rfl, fun h => Bool.noConfusion h, hB9⟩
          have ds := decide_eq_false hs0
          go_wp2
          go_roundw
          case rel =>
            refine ⟨j + 1, by omega, by go_num, fun q hq => ?_, st6, hB8⟩
            rcases Nat.lt_or_ge q j with g | g
            · exact hall q g
            · obtain rfl : q = j := by omega
              rw [hpq, hsg2]; omega
          case measure => simp [intOf]; omega
        · obtain rfl : j = nl := by omega
          have hLk := hlstep fun q hq => by
            obtain ⟨i9, hi9, rfl⟩ := at_of_mem hq
            exact hall i9 (by omega)
          have hf3 := (hB4.cell (World.block_lt_of_cell? _ _ hf1)).trans hf1
          have hf4 := (hB4.cell (World.block_lt_of_cell? _ _ hf2)).trans hf2
          clear hf1 hf2
          clear hq2 hlstep hall
          go_upto_region 17 with (fail)
          refine wp_region_K [] [.val (.int .i64 x), .val (.slice (some ⟨bb, 0, none⟩) N c'), .val (.pointer (some ⟨bb, 0, none⟩)), .val (.pointer (some ⟨bb, 0, none⟩)), .val (.agg #[.int .i64 pz.1, .int .i64 pz.2]), .val (.pointer (some ⟨b7, 0, none⟩)), .val (.agg #[.int .i64 pa.1, .int .i64 pa.2]), .val (.pointer (some ⟨b7, 2, none⟩)), .val (.agg #[.int .i64 pb.1, .int .i64 pb.2]), .val (.int .i64 (gsd pz pa pb)), .val (.int .i64 (Go.IntKind.i64.wrap (x + gsd pz pa pb))), .val (.int .i64 (Go.IntKind.i64.wrap (x + gsd pz pa pb)))]
            [[.ini 4], [.ini 3], [.frm 1 61], [.frm 2 62], [.frm 3 63], [.ini 7], [.frm 5 65], [.ini 7], [.frm 7 67], [.frm 4 64, .frm 6 66, .frm 8 68], [.frm 0 60, .frm 9 69], [.frm 10 70]]
            mixed (by kernel_rfl) (by kernel_rfl) (allPre_of ⟨trivial, trivial, trivial, trivial, trivial, trivial, trivial, trivial, trivial, trivial, trivial, trivial, trivial⟩)
            ⟨OpOk.quiet rfl ?_, OpOk.quiet rfl ?_, OpOk.quiet rfl ?_, OpOk.quiet rfl ?_, OpOk.quiet rfl ?_, OpOk.quiet rfl ?_, OpOk.quiet rfl ?_, OpOk.quiet rfl ?_, OpOk.quiet rfl ?_, OpOk.call rfl ?_, OpOk.quiet rfl ?_, OpOk.quiet rfl ?_, trivial⟩ ?_
          iterate 4
            · intro a_ u _ hf
              simp [facts, Need.fact, Ent.val, Act.eval] at hf
              go_simp
          · intro a_ u hG hf
            simp [facts, Need.fact, Ent.val, Act.eval] at hf
            have y0 := (hG.below.cell (World.block_lt_of_cell? _ _ hf3)).trans hf3
            have y1 := (hG.below.cell (World.block_lt_of_cell? _ _ hf4)).trans hf4
            go_simp
          · intro a_ u _ hf
            simp [facts, Need.fact, Ent.val, Act.eval] at hf
            go_simp
          · intro a_ u hG hf
            simp [facts, Need.fact, Ent.val, Act.eval] at hf
            have s9 := st.keep0 hG
            have y0 := s9.cell 1 rfl 0
            have y1 := s9.cell 1 rfl 1
            have y2 := s9.cell 1 rfl 2
            have y3 := s9.cell 1 rfl 3
            simp only [List.getElem?_toArray, List.getElem?_cons_zero, List.getElem?_cons_succ] at y0 y1 y2 y3
            go_simp
          · intro a_ u _ hf
            simp [facts, Need.fact, Ent.val, Act.eval] at hf
            go_simp
          · intro a_ u hG hf
            simp [facts, Need.fact, Ent.val, Act.eval] at hf
            have s9 := st.keep0 hG
            have y0 := s9.cell 1 rfl 0
            have y1 := s9.cell 1 rfl 1
            have y2 := s9.cell 1 rfl 2
            have y3 := s9.cell 1 rfl 3
            simp only [List.getElem?_toArray, List.getElem?_cons_zero, List.getElem?_cons_succ] at y0 y1 y2 y3
            go_simp
          · intro a_ u hG hf
            simp [facts, Need.fact, Ent.val, Act.eval] at hf
            refine ⟨_, _, by go_simp, (hq3 u).mono ?_⟩
            rintro e w' ⟨rfl, hb⟩
            exact ⟨_, rfl, hb, rfl⟩
          iterate 2
            · intro a_ u _ hf
              simp [facts, Need.fact, Ent.val, Act.eval] at hf
              go_simp
          intro u lw hw wc2 hKp hE hI hD
          simp only [allE, Ent.val] at hE
          obtain ⟨u0, u1, u2, u3, u4, u5, u6, u7, u8, u9, u10, u11, -⟩ := hE
          simp only [Nat.reduceAdd] at u0 u1 u2 u3 u4 u5 u6 u7 u8 u9 u10 u11
          simp only [allPut, Act.put, Nat.reduceAdd, u0, u1, u2, u3, u4, u5, u6, u7, u8, u9, u10, u11]
          try simp only [List.setIfInBounds_toArray, List.set_cons_zero, List.set_cons_succ]
          clear hI hD u0 u1 u2 u3 u4 u5 u6 u7 u8 u9 u10 u11
          have st7 := st.keep0 hKp
          clear st hKp hf3 hf4 hq3
          generalize Go.IntKind.i64.wrap (x + gsd pz pa pb) = x9
          have x0 := st7.cell 1 rfl 0
          have x1 := st7.cell 1 rfl 1
          have x2 := st7.cell 1 rfl 2
          have x3 := st7.cell 1 rfl 3
          simp only [List.getElem?_toArray, List.getElem?_cons_zero, List.getElem?_cons_succ] at x0 x1 x2 x3
          have y0 := st7.cell 0 rfl 0
          have y1 := st7.cell 0 rfl 1
          have y2 := st7.cell 0 rfl 2
          have y3 := st7.cell 0 rfl 3
          simp only [List.getElem?_toArray, List.getElem?_cons_zero, List.getElem?_cons_succ] at y0 y1 y2 y3
          go_wp2_with (go_at_call 51; refine JR.StopY.out ?_)
          refine ⟨?_⟩
          refine (pup_c _ _ _ _ _).mono ?_
          rintro e w8 ⟨q, rfl, -, hb⟩
          have st8 := st7.ext hb
          clear hb st7 x0 x1 x2 x3 y0 y1 y2 y3
          cases q with
          | true =>
            go_wp2
            go_roundw
            case rel => exact ⟨k + 1, _, _, by omega, rfl, rfl, by go_num, hLk, hB.trans (st8.hb.mono hB.size)⟩
            case measure => simp [intOf]; omega
          | false =>
            have y0 := st8.cell 0 rfl 0
            have y1 := st8.cell 0 rfl 1
            have y2 := st8.cell 0 rfl 2
            have y3 := st8.cell 0 rfl 3
            simp only [List.getElem?_toArray, List.getElem?_cons_zero, List.getElem?_cons_succ] at y0 y1 y2 y3
            go_wp2_with (go_at_call 51; refine JR.StopY.out ?_)
            refine ⟨?_⟩
            refine (pup_c _ _ _ _ _).mono ?_
            rintro e w9 ⟨q, rfl, -, hb⟩
            have st9 := st8.ext hb
            clear hb st8 y0 y1 y2 y3
            cases q with
            | true =>
              go_wp2
              go_roundw
              case rel => exact ⟨k + 1, _, _, by omega, rfl, rfl, by go_num, hLk, hB.trans (st9.hb.mono hB.size)⟩
              case measure => simp [intOf]; omega
            | false =>
              go_wp2
              go_roundw
              case rel => exact ⟨k + 1, _, _, by omega, rfl, rfl, by go_num, hLk, hB.trans (st9.hb.mono hB.size)⟩
              case measure => simp [intOf]; omega
    · obtain rfl : k = N := by omega
      by_cases hx : (0 : Int) < x
      · have dx := decide_eq_true hx
        by_cases hy : y = 1
        · have dy : (y == 1) = true := by simp [hy]
          go_wp2
          go_ret
          exact ⟨true, rfl, fun _ => ⟨by omega, hL⟩, hBw⟩
        · have dy : (y == 1) = false := by simp [hy]
          go_wp2
          go_ret
          exact ⟨false, rfl, fun h => Bool.noConfusion h, hBw⟩
      · have dx := decide_eq_false hx
        go_wp2
        go_ret
        exact ⟨false, rfl, fun h => Bool.noConfusion h, hBw⟩
end Go.Proofs.YtcoeiimohkofjaaGreat
set_option linter.unusedSimpArgs false
set_option linter.unusedVariables false
/-! FnSceneFan: the walk (printed by gen/zz.py from zi.walk). -/
namespace JR
open Go Go.RowKit
section
variable {P : Program} {ops : Array Oper} {Q : Exit → Act → World → Prop} {G : World → Prop} {B0 : Nat} {plan : List Ent} {a0 : Act} {i : Nat} {o : Oper} {ns : List Need}
/-- a guarded operation that only adds -/
theorem OpOk.addsG {e : Ent} {k t : Nat} {b : Bool} (hg : o.guard = some (k, b)) (hd : (ops[k]?).bind (·.dst) = some t) (hp : plan.getD k .any = .val (.bool b))
    (h : ∀ a w, G w → facts plan a0 a w (.frm k t :: ns) → ∃ v w', (execOp a.eval o).run P w = .ok (.value v) w' ∧ Ext w w' ∧ e.E v w.heap.size w'.heap.size a w') : OpOk P ops Q G B0 plan a0 i o e (.frm k t :: ns) := by
  intro a w hG hf
  refine ⟨fun _ => ?_, fun h => by rw [wanted_of hg hd (gd hp a w hf)] at h; cases h⟩
  obtain ⟨v, w', h1, h2, h3⟩ := h a w hG hf
  unfold Oper.wp
  rw [h1]
  exact ⟨v, rfl, h3, .inl h2⟩
end
end JR
namespace Go.Proofs.YtcoeiimohkofjaaGreat
open Go Go.RowKit PF JR
theorem slR3 (w : World) (p q r : Int × Int) (T : TypeId) : SlR w.heap.size (w.alloc (.cells #[.int .i64 p.1, .int .i64 p.2, .int .i64 q.1, .int .i64 q.2, .int .i64 r.1, .int .i64 r.2] T)).heap.size (w.alloc (.cells #[.int .i64 p.1, .int .i64 p.2, .int .i64 q.1, .int .i64 q.2, .int .i64 r.1, .int .i64 r.2] T)) (.slice (some ⟨w.heap.size, 0, none⟩) 3 3) [p, q, r] :=
  SlR.own (L := [p, q, r]) (T := T) ⟨rfl, .inr ⟨w.heap.size, 3, _, rfl, Nat.le_refl _, heap_alloc_new w _, by simp, by simp [maxLen], rfl, rfl⟩⟩ (Nat.le_refl _)
def triAgg (v : Value) : Value := .agg #[v, .slice none 0 0]
theorem pol_nil (l : List (Int × Int)) (p : Int × Int) : polHas l [] p = ringHas l p true := by
  unfold polHas
  simp [orN]
/-- holds of a ring's polygon and a point -/
theorem hol_ring {l : List (Int × Int)} (ok3 : ShOk 3 l []) (x y : Int) (hb : Bn3 (x, y)) (u : World) (v1 v2 v3 : Value) (s1 : SlP u v1 l) (s2 : SlH u v2 []) (s3 : SlP u v3 [(x, y)]) :
    Calls Tryz.prog 27 #[.agg #[.int .i64 3, v1, v2], .agg #[.int .i64 0, v3, .slice none 0 0]] u fun e w' => e = .returned (.bool (ringHas l (x, y) true)) ∧ Below u.heap.size u w' := by
  obtain ⟨A1, k1, rfl, -⟩ := id s1
  obtain ⟨A2, k2, rfl, -⟩ := id s2
  obtain ⟨A3, k3, rfl, -⟩ := id s3
  have ok0 : ShOk 0 [(x, y)] [] := ⟨by intro q hq; simp at hq; rw [hq]; exact hb, by simp, by simp, .inl ⟨rfl, (x, y), rfl⟩⟩
  have e1 : hdS 3 l [] 0 [(x, y)] [] = ringHas l (x, y) true := pol_nil l (x, y)
  refine hol_c 3 0 A1 A2 A3 none _ _ _ _ k1 k2 k3 0 _ (mtV 3 l [] 0 [(x, y)] []) u fun z hz => ?_
  rw [← e1]
  exact ask_sc (X := 0) (by omega) 3 _ _ ok3 0 _ _ (.inr (.inr (.inr ⟨rfl, .inl rfl⟩))) ok0 _ _ _ _ z (s1.below hz) (s2.below hz) (s3.below hz) (SlH_nil _ 0 none)
set_option maxRecDepth 100000 in
set_option maxHeartbeats 16000000 in
theorem fan_c (l : List (Int × Int)) (x y : Int) (hl0 : l.length ≤ 9223372036854775807) (v : Value) (w : World) (hv : SlP w v l) :
    Calls Tryz.prog 6 #[v, .agg #[.int .i64 x, .int .i64 y]] w fun e w' => e = .returned (.bool true) ∧ Below w.heap.size w w' := by
  obtain ⟨A, cc, rfl, hk⟩ := id hv
  have st0 := (Blk.nil w).push rfl #[.int .i64 x, .int .i64 y] 27
  have hisc := fun u hu => isc_c l 12 hl0 (.slice A l.length cc) u hu
  have hscp := fun v u hu => isc_c [(x, y)] 1 (by simp) v u hu
  have hsim := fun u hu => sim_c l hl0 (.slice A l.length cc) u hu
  have hicr := fun (hb : ∀ p ∈ l, Bs p) (h9 : l.length ≤ 900000000) u hu => icr_c l hb h9 (.slice A l.length cc) u hu
  have hbigc : iscB l 12 = true → (∀ p ∈ l, Bs p) ∧ (∀ p ∈ l, Bn3 p) ∧ l.length ≤ 12 := fun h => by
    obtain ⟨h8, hok⟩ := isc_le h
    exact ⟨(okS_b hok).1, (okS_b hok).2, by omega⟩
  have hpb : iscB [(x, y)] 1 = true → Bn3 (x, y) := fun h => (okS_b (isc_le h).2).2 _ (by simp)
  generalize hi1 : iscB l 12 = i1 at *
  generalize hi2 : iscB [(x, y)] 1 = i2 at *
  generalize hi3 : simB l = i3 at *
  generalize hn : l.length = n at *
  go_enter Tryz.func6, Tryz.ntmps6
  by_cases c1 : (2147483647 : Int) < (n : Int)
  · have d1 := decide_eq_true c1
    go_wp2
    go_ret
    exact ⟨rfl, st0.hb⟩
  have d1 := decide_eq_false c1
  go_wp2_with (go_at_call 17; refine JR.StopY.out ?_)
  refine ⟨?_⟩
  refine (hisc _ (hv.below st0.hb)).mono ?_
  rintro e w1 ⟨rfl, hb⟩
  have st1 := st0.ext hb
  clear hb st0 hisc
  cases i1 with
  | false =>
    go_wp2
    go_ret
    exact ⟨rfl, st1.hb⟩
  | true =>
  obtain ⟨hBs, hB3, hn12⟩ := hbigc rfl
  go_wp2_with (go_at_call 23; refine JR.StopY.out ?_)
  refine ⟨?_⟩
  refine (hicr hBs (by omega) _ (hv.below st1.hb)).mono ?_
  rintro e w2 ⟨q, rfl, hq, hb⟩
  have st2 := st1.ext hb
  clear hb st1 hicr
  cases q with
  | false =>
    go_wp2
    go_ret
    exact ⟨rfl, st2.hb⟩
  | true =>
  go_wp2_with (go_at_call 24; refine JR.StopY.out ?_)
  refine ⟨?_⟩
  refine (hsim _ (hv.below st2.hb)).mono ?_
  rintro e w3 ⟨rfl, hb⟩
  have st3 := st2.ext hb
  clear hb st2 hsim
  cases i3 with
  | false =>
    go_wp2
    go_ret
    exact ⟨rfl, st3.hb⟩
  | true =>
  have z0 := st3.cell 0 rfl 0
  have z1 := st3.cell 0 rfl 1
  simp only [List.getElem?_toArray, List.getElem?_cons_zero, List.getElem?_cons_succ] at z0 z1
  have hsl : SlP (w3.alloc (.cells #[.int .i64 x, .int .i64 y] 27)) (.slice (some ⟨w3.heap.size, 0, none⟩) 1 1) [(x, y)] := by
    have hg := heap_alloc_new w3 (.cells #[.int .i64 x, .int .i64 y] 27)
    have y0 := cellAt hg 0
    have y1 := cellAt hg 1
    simp only [List.getElem?_toArray, List.getElem?_cons_zero, List.getElem?_cons_succ] at y0 y1
    refine ⟨_, 1, rfl, fun k p hp => ?_⟩
    match k, hp with
    | 0, hp => simp at hp; subst hp; exact ⟨_, 0, rfl, y0, y1⟩
  have st4 := st3.push (b := w3.heap.size) rfl #[.int .i64 x, .int .i64 y] 27
  go_wp2_with (go_at_call 17; refine JR.StopY.out ?_)
  refine ⟨?_⟩
  refine (hscp _ _ hsl).mono ?_
  rintro e w4 ⟨rfl, hb⟩
  have st5 := (st4.ext hb).tail
  clear hb st3 st4 hscp hsl z0 z1
  cases i2 with
  | false =>
    go_wp2
    go_ret
    exact ⟨rfl, st5.hb⟩
  | true =>
  have hb3 := hpb rfl
  have h3 := (sim_bs hi3).1
  have hL : Lft l := by
    obtain ⟨-, hL⟩ := hq (by first | rfl | trivial)
    rw [sim_seg hi3] at hL
    exact hL
  have hlaw := fan_law hi3 hL (x, y)
  rw [hn] at hlaw h3
  clear hbigc hpb hq hi1 hi2 hL
  have hok3 : ShOk 3 l [] := ⟨hB3, by simp, by simp, .inr (.inr (.inr ⟨rfl, by omega, by omega⟩))⟩
  have hmB : ∀ k, Bn3 (at' l k) := fun k => at_bn3 hB3 k
  have hokt : ∀ k, ShOk 3 (tri l k) [] := fun k => ⟨by
    intro q hq
    simp only [tri, List.mem_cons, List.not_mem_nil, or_false] at hq
    rcases hq with h | h | h <;> rw [h] <;> exact hmB _, by simp, by simp, .inr (.inr (.inr ⟨rfl, by simp [tri], by simp [tri]⟩))⟩
  obtain ⟨F, hF⟩ : ∃ F : Nat → Bool, (fun k => ringHas (tri l k) (x, y) true) = F := ⟨_, rfl⟩
  have hF1 : ∀ k, ringHas (tri l k) (x, y) true = F k := fun k => congrFun hF k
  rw [hF] at hlaw
  have hhot := fun k u v1 v2 v3 s1 s2 s3 => hol_ring (hokt k) x y hb3 u v1 v2 v3 s1 s2 s3
  simp only [hF1] at hhot
  have hhol := fun u v1 v2 v3 s1 s2 s3 => hol_ring hok3 x y hb3 u v1 v2 v3 s1 s2 s3
  rw [hlaw] at hhol
  have hpot := fun k u (v : Value) (s1 : SlP u v (tri l k)) => scPo_r (tri l k) [] (by simp [tri]) (by simp [tri]) (by simp) (fun x hx => by simp at hx) v (.slice none 0 0) u s1 (SlH_nil _ 0 none)
  have hpol := fun u (s1 : SlP u (.slice A n cc) l) => scPo_r l [] (by omega) (by omega) (by simp) (fun x hx => by simp at hx) (.slice A n cc) (.slice none 0 0) u s1 (SlH_nil _ 0 none)
  clear hlaw hF hF1 hokt hmB hok3 hB3 hBs hi3
  go_wp2
  go_loopw [5, 6] (fun a i wr => ∃ k k2 : Nat, k ≤ n - 2 ∧ (k2 ≤ k + 2 ∧ k + 2 ≤ k2) ∧ a = .bool (anyN F k) ∧ i = .int .i64 k2 ∧ Blk w wr [(w.heap.size, #[.int .i64 x, .int .i64 y], 27)]) (fun _ i _ => n - (intOf i).toNat)
  case atStart => exact ⟨0, 2, Nat.zero_le _, by omega, rfl, rfl, st5⟩
  case round =>
    clear st5
    obtain ⟨k, k2, hkn, hk2, rfl, rfl, st⟩ := hrel
    rcases Nat.lt_or_ge k (n - 2) with hlt | hge
    · obtain ⟨k1, hk1⟩ : ∃ k1 : Nat, k1 ≤ k + 1 ∧ k + 1 ≤ k1 := ⟨k + 1, by omega⟩
      obtain ⟨bb, off, rfl, m1, m2⟩ := hk 0 _ (at_get (by omega))
      obtain ⟨bb', off', ea, n1, n2⟩ := hk k1 _ (at_get (by omega))
      obtain ⟨bb'', off'', eb, o1, o2⟩ := hk k2 _ (at_get (by omega))
      cases ea
      cases eb
      have m1 := (st.hb.cell (World.block_lt_of_cell? _ _ m1)).trans m1
      have m2 := (st.hb.cell (World.block_lt_of_cell? _ _ m2)).trans m2
      have n1 := (st.hb.cell (World.block_lt_of_cell? _ _ n1)).trans n1
      have n2 := (st.hb.cell (World.block_lt_of_cell? _ _ n2)).trans n2
      have o1 := (st.hb.cell (World.block_lt_of_cell? _ _ o1)).trans o1
      have o2 := (st.hb.cell (World.block_lt_of_cell? _ _ o2)).trans o2
      have hlt' : (k2 : Int) < (n : Int) := by omega
      have hlt1 : (k1 : Int) < (n : Int) := by omega
      have h0n : (0 : Int) < (n : Int) := by omega
      have hn0 : ¬ n = 0 := by omega
      have hsw : Go.IntKind.i64.wrap ((k2 : Int) - 1) = ((k1 : Nat) : Int) := by rw [wrapS (by omega)]; omega
      have hstep : anyN F (k + 1) = (anyN F k || F k) := rfl
      obtain ⟨p0, hp0⟩ : ∃ z, at' l 0 = z := ⟨_, rfl⟩
      obtain ⟨p1, hp1⟩ : ∃ z, at' l k1 = z := ⟨_, rfl⟩
      obtain ⟨p2, hp2⟩ : ∃ z, at' l k2 = z := ⟨_, rfl⟩
      have hpot := hpot k
      have hhot := hhot k
      have htri : tri l k = [p0, p1, p2] := by
        unfold tri
        rw [hp0, show k + 1 = k1 by omega, show k + 2 = k2 by omega, hp1, hp2]
      rw [htri] at hpot hhot
      simp only [hp0, hp1, hp2] at m1 m2 n1 n2 o1 o2
      simp only [Nat.zero_mul, Nat.add_zero] at m1 m2
      clear hp0 hp1 hp2 htri
      generalize hq0 : anyN F k = q0 at *
      cases q0 with
      | true =>
        rw [Bool.true_or] at hstep
        clear hpot hhot m1 m2 n1 n2 o1 o2
        go_upto_region 9 with (fail)
        refine wp_region_T [] [.val (.bool true), .val (.bool true), .val (undef), .val (undef), .val (undef), .val (undef), .val (undef), .val (undef), .val (undef), .val (undef), .val (undef), .val (undef), .val (undef), .val (undef), .val (undef), .val (undef), .val (undef), .val (undef), .val (undef), .val (undef), .val (.bool true), .val (.bool true)]
          [[.ini 5], [.frm 0 35], [.frm 1 36, .ini 0], [.frm 1 36, .frm 2 37], [.frm 1 36, .frm 3 38], [.frm 1 36, .ini 0], [.frm 1 36, .ini 6], [.frm 1 36, .frm 6 41], [.frm 1 36, .frm 5 40, .frm 7 42], [.frm 1 36, .frm 8 43], [.frm 1 36, .ini 0], [.frm 1 36, .ini 6], [.frm 1 36, .frm 10 45, .frm 11 46], [.frm 1 36, .frm 12 47], [.frm 1 36, .frm 4 39, .frm 9 44, .frm 13 48], [.frm 1 36, .frm 14 49], [.frm 1 36, .frm 14 49, .frm 15 50], [.frm 1 36, .ini 3], [.frm 1 36, .frm 17 52], [.frm 1 36, .frm 16 51, .frm 18 53], [.frm 1 36], [.frm 20 55]]
          mixed (by kernel_rfl) (by kernel_rfl) (allPre_of ⟨trivial, trivial, trivial, trivial, trivial, trivial, trivial, trivial, trivial, trivial, trivial, trivial, trivial, trivial, trivial, trivial, trivial, trivial, trivial, trivial, trivial, trivial, trivial⟩)
          ⟨OpOk.quiet rfl ?_, OpOk.quiet rfl ?_, sk rfl (by kernel_rfl) rfl, sk rfl (by kernel_rfl) rfl, sk rfl (by kernel_rfl) rfl, sk rfl (by kernel_rfl) rfl, sk rfl (by kernel_rfl) rfl, sk rfl (by kernel_rfl) rfl, sk rfl (by kernel_rfl) rfl, sk rfl (by kernel_rfl) rfl, sk rfl (by kernel_rfl) rfl, sk rfl (by kernel_rfl) rfl, sk rfl (by kernel_rfl) rfl, sk rfl (by kernel_rfl) rfl, sk rfl (by kernel_rfl) rfl, sk rfl (by kernel_rfl) rfl, sk rfl (by kernel_rfl) rfl, sk rfl (by kernel_rfl) rfl, sk rfl (by kernel_rfl) rfl, sk rfl (by kernel_rfl) rfl, OpOk.quiet rfl ?_, OpOk.quiet rfl ?_, trivial⟩ ?_
        iterate 4
          · intro a_ u _ hf
            simp [facts, Need.fact, Ent.val, Act.eval] at hf
            go_simp
        intro u lw hw wc2 hKp hE hI hD
        simp only [allE, Ent.val] at hE
        obtain ⟨u0, u1, u2, u3, u4, u5, u6, u7, u8, u9, u10, u11, u12, u13, u14, u15, u16, u17, u18, u19, u20, u21, -⟩ := hE
        simp only [Nat.reduceAdd] at u0 u1 u2 u3 u4 u5 u6 u7 u8 u9 u10 u11 u12 u13 u14 u15 u16 u17 u18 u19 u20 u21
        simp only [allPut, Act.put, Nat.reduceAdd, u0, u1, u2, u3, u4, u5, u6, u7, u8, u9, u10, u11, u12, u13, u14, u15, u16, u17, u18, u19, u20, u21]
        try simp only [List.setIfInBounds_toArray, List.set_cons_zero, List.set_cons_succ]
        clear hI hD u0 u1 u2 u3 u4 u5 u6 u7 u8 u9 u10 u11 u12 u13 u14 u15 u16 u17 u18 u19 u20 u21
        have st2 := st.keep0 hKp
        clear st hKp
        go_wp2
        go_roundw
        case rel => exact ⟨k + 1, k2 + 1, by omega, by omega, by rw [hstep], by go_num, st2⟩
        case measure => simp [intOf]; omega
      | false =>
        rw [Bool.false_or] at hstep
        generalize F k = fk at *
        go_upto_region 9 with (fail)
        refine wp_region_T [] [.val (.bool false), .val (.bool false), .val (.slice (some ⟨bb, off, none⟩) n cc), .val (.pointer (some ⟨bb, off, none⟩)), .val (.agg #[.int .i64 p0.1, .int .i64 p0.2]), .val (.slice (some ⟨bb, off, none⟩) n cc), .val (.int .i64 (k2 : Nat)), .val (.int .i64 (k1 : Nat)), .val (.pointer (some ⟨bb, off + k1 * 2, none⟩)), .val (.agg #[.int .i64 p1.1, .int .i64 p1.2]), .val (.slice (some ⟨bb, off, none⟩) n cc), .val (.int .i64 (k2 : Nat)), .val (.pointer (some ⟨bb, off + k2 * 2, none⟩)), .val (.agg #[.int .i64 p2.1, .int .i64 p2.2]), .slr [p0, p1, p2], .fnS 49 triAgg, .sPo [p0, p1, p2] [], .val (.agg #[.int .i64 x, .int .i64 y]), .sLn 0 [(x, y)], .val (.bool fk), .val (.bool fk), .val (.bool fk)]
          [[.ini 5], [.frm 0 35], [.frm 1 36, .ini 0], [.frm 1 36, .frm 2 37], [.frm 1 36, .frm 3 38], [.frm 1 36, .ini 0], [.frm 1 36, .ini 6], [.frm 1 36, .frm 6 41], [.frm 1 36, .frm 5 40, .frm 7 42], [.frm 1 36, .frm 8 43], [.frm 1 36, .ini 0], [.frm 1 36, .ini 6], [.frm 1 36, .frm 10 45, .frm 11 46], [.frm 1 36, .frm 12 47], [.frm 1 36, .frm 4 39, .frm 9 44, .frm 13 48], [.frm 1 36, .frm 14 49], [.frm 1 36, .frm 14 49, .frm 15 50], [.frm 1 36, .ini 3], [.frm 1 36, .frm 17 52], [.frm 1 36, .frm 16 51, .frm 18 53], [.frm 1 36, .frm 19 54], [.frm 20 55]]
          mixed (by kernel_rfl) (by kernel_rfl) (allPre_of ⟨trivial, trivial, trivial, trivial, trivial, trivial, trivial, trivial, trivial, trivial, trivial, trivial, trivial, trivial, trivial, trivial, trivial, trivial, trivial, trivial, trivial, trivial, trivial⟩)
          ⟨OpOk.quiet rfl ?_, OpOk.quiet rfl ?_, qt rfl (by kernel_rfl) rfl ?_, qt rfl (by kernel_rfl) rfl ?_, qt rfl (by kernel_rfl) rfl ?_, qt rfl (by kernel_rfl) rfl ?_, qt rfl (by kernel_rfl) rfl ?_, qt rfl (by kernel_rfl) rfl ?_, qt rfl (by kernel_rfl) rfl ?_, qt rfl (by kernel_rfl) rfl ?_, qt rfl (by kernel_rfl) rfl ?_, qt rfl (by kernel_rfl) rfl ?_, qt rfl (by kernel_rfl) rfl ?_, qt rfl (by kernel_rfl) rfl ?_, OpOk.addsG rfl (by kernel_rfl) rfl ?_, OpOk.addsG rfl (by kernel_rfl) rfl ?_, OpOk.callG rfl (by kernel_rfl) (gd rfl) ?_, qt rfl (by kernel_rfl) rfl ?_, OpOk.callG rfl (by kernel_rfl) (gd rfl) ?_, OpOk.callG rfl (by kernel_rfl) (gd rfl) ?_, OpOk.quiet rfl ?_, OpOk.quiet rfl ?_, trivial⟩ ?_
        iterate 4
          · intro a_ u _ hf
            simp [facts, Need.fact, Ent.val, Act.eval] at hf
            go_simp
        · intro a_ u hG hf
          simp [facts, Need.fact, Ent.val, Act.eval] at hf
          have y0 := (hG.below.cell (World.block_lt_of_cell? _ _ m1)).trans m1
          have y1 := (hG.below.cell (World.block_lt_of_cell? _ _ m2)).trans m2
          go_simp
        iterate 4
          · intro a_ u _ hf
            simp [facts, Need.fact, Ent.val, Act.eval] at hf
            go_simp
        · intro a_ u hG hf
          simp [facts, Need.fact, Ent.val, Act.eval] at hf
          have y0 := (hG.below.cell (World.block_lt_of_cell? _ _ n1)).trans n1
          have y1 := (hG.below.cell (World.block_lt_of_cell? _ _ n2)).trans n2
          go_simp
        iterate 3
          · intro a_ u _ hf
            simp [facts, Need.fact, Ent.val, Act.eval] at hf
            go_simp
        · intro a_ u hG hf
          simp [facts, Need.fact, Ent.val, Act.eval] at hf
          have y0 := (hG.below.cell (World.block_lt_of_cell? _ _ o1)).trans o1
          have y1 := (hG.below.cell (World.block_lt_of_cell? _ _ o2)).trans o2
          go_simp
        · intro a_ u hG hf
          simp [facts, Need.fact, Ent.val, Act.eval] at hf
          exact ⟨_, _, by go_simp, Ext.alloc _ _, slR3 u p0 p1 p2 27⟩
        · intro a_ u hG hf
          obtain ⟨-, ⟨_, _, f1⟩, -⟩ := hf
          have f1 : SlR _ _ u (a_.eval (.tmp 49)) [p0, p1, p2] := f1
          obtain ⟨A9, c9, f3⟩ := SlR.len f1
          refine ⟨triAgg (a_.eval (.tmp 49)), u, ?_, Ext.refl _, rfl⟩
          rw [f3]
          simp [Act.eval] at f3
          unfold triAgg
          go_simp
        · intro a_ u hG hf
          obtain ⟨-, ⟨_, _, f1⟩, ⟨_, _, f2⟩, -⟩ := hf
          have f1 : SlR _ _ u (a_.eval (.tmp 49)) [p0, p1, p2] := f1
          have f2 : a_.eval (.tmp 50) = triAgg (a_.eval (.tmp 49)) := f2
          have hp9 := hpot u _ f1.p
          obtain ⟨A9, c9, f3⟩ := SlR.len f1
          rw [f3] at f2 hp9
          simp [Act.eval, triAgg] at f2
          refine ⟨_, _, by go_simp, hp9.mono ?_⟩
          rintro e w' ⟨v1, v2, rfl, g1, g2, hb⟩
          exact ⟨_, rfl, hb, v1, v2, rfl, g1, g2⟩
        · intro a_ u hG hf
          simp [facts, Need.fact, Ent.val, Act.eval] at hf
          obtain ⟨y0, y1⟩ := st.k2 hG 0 rfl
          go_simp
        · intro a_ u hG hf
          simp [facts, Need.fact, Ent.val, Act.eval] at hf
          refine ⟨_, _, by go_simp, (scPt_n x y u).mono ?_⟩
          rintro e w' ⟨v9, rfl, g1, hb⟩
          exact ⟨_, rfl, hb, v9, rfl, g1⟩
        · intro a_ u hG hf
          obtain ⟨-, ⟨_, _, f1⟩, ⟨_, _, f2⟩, -⟩ := hf
          obtain ⟨v1, v2, f3, f4, f5⟩ := f1
          obtain ⟨v3, f6, f7⟩ := f2
          simp [Act.eval] at f3 f6
          refine ⟨_, _, by go_simp, (hhot u v1 v2 v3 f4.p f5.h f7.p).mono ?_⟩
          rintro e w' ⟨rfl, hb⟩
          exact ⟨_, rfl, hb, rfl⟩
        iterate 2
          · intro a_ u _ hf
            simp [facts, Need.fact, Ent.val, Act.eval] at hf
            go_simp
        intro u lw hw wc2 hKp hE hI hD
        simp only [allE, Ent.val] at hE
        obtain ⟨u0, u1, u2, u3, u4, u5, u6, u7, u8, u9, u10, u11, u12, u13, -, -, -, u17, -, u19, u20, u21, -⟩ := hE
        simp only [Nat.reduceAdd] at u0 u1 u2 u3 u4 u5 u6 u7 u8 u9 u10 u11 u12 u13 u17 u19 u20 u21
        simp only [allPut, Act.put, Nat.reduceAdd, u0, u1, u2, u3, u4, u5, u6, u7, u8, u9, u10, u11, u12, u13, u17, u19, u20, u21]
        try simp only [List.setIfInBounds_toArray, List.set_cons_zero, List.set_cons_succ]
        clear hI hD u0 u1 u2 u3 u4 u5 u6 u7 u8 u9 u10 u11 u12 u13 u17 u19 u20 u21
        generalize u 14 = y_14
        generalize u 15 = y_15
        generalize u 16 = y_16
        generalize u 18 = y_18
        have st2 := st.keep0 hKp
        clear st hKp
        go_wp2
        go_roundw
        case rel => exact ⟨k + 1, k2 + 1, by omega, by omega, by rw [hstep], by go_num, st2⟩
        case measure => simp [intOf]; omega
    · obtain rfl : k = n - 2 := by omega
      have hge' : ¬ (k2 : Int) < (n : Int) := by omega
      generalize hfa : anyN F (n - 2) = fa at *
      clear hhot hpot hk
      go_upto_region 10 with (fail)
      refine wp_region_K [] [.val (.slice A n cc), .val (.agg #[.slice A n cc, .slice none 0 0]), .sPo l [], .val (.agg #[.int .i64 x, .int .i64 y]), .sLn 0 [(x, y)], .val (.bool fa), .val (.bool fa), .val (.bool true), .val (.bool true), .val (.bool true), .val (.bool true), .val (.bool true)]
        [[.ini 0], [.frm 0 56], [.frm 1 57], [.ini 3], [.frm 3 59], [.frm 2 58, .frm 4 60], [.ini 5], [.frm 5 61, .frm 6 62], [.frm 7 63], [.frm 8 64], [.frm 8 64, .frm 9 65], [.frm 10 66]]
        mixed (by kernel_rfl) (by kernel_rfl) (allPre_of ⟨trivial, trivial, trivial, trivial, trivial, trivial, trivial, trivial, trivial, trivial, trivial, trivial, trivial⟩)
        ⟨OpOk.quiet rfl ?_, OpOk.quiet rfl ?_, OpOk.call rfl ?_, OpOk.quiet rfl ?_, OpOk.call rfl ?_, OpOk.call rfl ?_, OpOk.quiet rfl ?_, OpOk.quiet rfl ?_, OpOk.quiet rfl ?_, OpOk.callG rfl (by kernel_rfl) (gd rfl) ?_, OpOk.quiet rfl ?_, OpOk.quiet rfl ?_, trivial⟩ ?_
      iterate 2
        · intro a_ u _ hf
          simp [facts, Need.fact, Ent.val, Act.eval] at hf
          go_simp
      · intro a_ u hG hf
        simp [facts, Need.fact, Ent.val, Act.eval] at hf
        refine ⟨_, _, by go_simp, (hpol u (hv.below (st.keep0 hG).hb)).mono ?_⟩
        rintro e w' ⟨v1, v2, rfl, g1, g2, hb⟩
        exact ⟨_, rfl, hb, v1, v2, rfl, g1, g2⟩
      · intro a_ u hG hf
        simp [facts, Need.fact, Ent.val, Act.eval] at hf
        obtain ⟨y0, y1⟩ := st.k2 hG 0 rfl
        go_simp
      · intro a_ u hG hf
        simp [facts, Need.fact, Ent.val, Act.eval] at hf
        refine ⟨_, _, by go_simp, (scPt_n x y u).mono ?_⟩
        rintro e w' ⟨v9, rfl, g1, hb⟩
        exact ⟨_, rfl, hb, v9, rfl, g1⟩
      · intro a_ u hG hf
        obtain ⟨⟨_, _, f1⟩, ⟨_, _, f2⟩, -⟩ := hf
        obtain ⟨v1, v2, f3, f4, f5⟩ := f1
        obtain ⟨v3, f6, f7⟩ := f2
        simp [Act.eval] at f3 f6
        refine ⟨_, _, by go_simp, (hhol u v1 v2 v3 f4.p f5.h f7.p).mono ?_⟩
        rintro e w' ⟨rfl, hb⟩
        exact ⟨_, rfl, hb, rfl⟩
      iterate 3
        · intro a_ u _ hf
          simp [facts, Need.fact, Ent.val, Act.eval] at hf
          go_simp
      · intro a_ u hG hf
        simp [facts, Need.fact, Ent.val, Act.eval] at hf
        refine ⟨_, _, by go_simp, (awk_c u).mono ?_⟩
        rintro e w' ⟨rfl, hb⟩
        exact ⟨_, rfl, hb, rfl⟩
      iterate 2
        · intro a_ u _ hf
          simp [facts, Need.fact, Ent.val, Act.eval] at hf
          go_simp
      intro u lw hw wc2 hKp hE hI hD
      simp only [allE, Ent.val] at hE
      obtain ⟨u0, u1, -, u3, -, u5, u6, u7, u8, u9, u10, u11, -⟩ := hE
      simp only [Nat.reduceAdd] at u0 u1 u3 u5 u6 u7 u8 u9 u10 u11
      simp only [allPut, Act.put, Nat.reduceAdd, u0, u1, u3, u5, u6, u7, u8, u9, u10, u11]
      try simp only [List.setIfInBounds_toArray, List.set_cons_zero, List.set_cons_succ]
      clear hI hD u0 u1 u3 u5 u6 u7 u8 u9 u10 u11
      generalize u 2 = y_2
      generalize u 4 = y_4
      go_wp2
      go_ret
      exact ⟨rfl, (st.keep0 hKp).hb⟩
end Go.Proofs.YtcoeiimohkofjaaGreat
