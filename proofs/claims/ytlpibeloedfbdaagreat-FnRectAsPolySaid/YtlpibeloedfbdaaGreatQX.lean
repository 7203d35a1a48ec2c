import Derived.Test.YtlpibeloedfbdaaGreatQY
import Derived.Test.YtlpibeloedfbdaaGreatQC
import Derived.Test.YtlpibeloedfbdaaGreatAwake
set_option linter.unusedSimpArgs false
set_option linter.unusedVariables false
/-! Plane geometry: a segment whose ends are outside a ring meets none of its edges, or two; so a ring and a line meet just if they have a point in common. -/
namespace PF
section
variable {P Q a b : Int × Int}
/-- two segments cross, each within the other -/
def crs (P Q a b : Int × Int) : Prop := ((0 < gsd P Q a ∧ gsd P Q b < 0) ∨ (gsd P Q a < 0 ∧ 0 < gsd P Q b)) ∧ ((0 < gsd a b P ∧ gsd a b Q < 0) ∨ (gsd a b P < 0 ∧ 0 < gsd a b Q))
theorem se4 : (b.2 - P.2) * (gsd a b P - gsd a b Q) = (b.2 - a.2) * gsd P Q b + (Q.2 - P.2) * gsd a b P := by unfold gsd; grind
theorem se5 : (Q.2 - a.2) * (gsd a b P - gsd a b Q) = (b.2 - a.2) * -gsd P Q a + (Q.2 - P.2) * -gsd a b Q := by unfold gsd; grind
theorem edge_cross0 (hpq : P.2 ≤ Q.2) (hab : a.2 ≤ b.2) (h : crs P Q a b) : (glf a b P != glf a b Q) = !(spf P Q a != spf P Q b) := by
  have i3 := se3 (P := P) (Q := Q) (a := a) (b := b)
  have i4 := se4 (P := P) (Q := Q) (a := a) (b := b)
  have i5 := se5 (P := P) (Q := Q) (a := a) (b := b)
  have hd : ¬ (b.2 - a.2 = 0 ∧ Q.2 - P.2 = 0) := by
    rintro ⟨u, v⟩
    have e : gsd a b P = gsd a b Q := by unfold gsd; rw [show P.2 - a.2 = Q.2 - a.2 by omega, u]; simp
    unfold crs at h; omega
  rw [glf_up hab, glf_up hab]
  unfold spf
  unfold crs at h
  generalize gsd P Q a = s1 at *
  generalize gsd P Q b = s2 at *
  generalize gsd a b P = t1 at *
  generalize gsd a b Q = t2 at *
  have pos : ∀ x y : Int, 0 < x → 0 < y → 0 < (b.2 - a.2) * x + (Q.2 - P.2) * y := by
    intro x y hx hy
    have k1 := mqq (m := b.2 - a.2) (n := x) (by omega) (by omega)
    have k2 := mqq (m := Q.2 - P.2) (n := y) (by omega) (by omega)
    rcases (show b.2 - a.2 ≠ 0 ∨ Q.2 - P.2 ≠ 0 by omega) with g | g
    · have := mpp (m := b.2 - a.2) (n := x) (by omega) hx; omega
    · have := mpp (m := Q.2 - P.2) (n := y) (by omega) hy; omega
  obtain ⟨h1, k1, k2⟩ | ⟨h1, k1, k2⟩ : (((0 < s1 ∧ s2 < 0) ∨ (s1 < 0 ∧ 0 < s2)) ∧ 0 < t1 ∧ t2 < 0) ∨ (((0 < s1 ∧ s2 < 0) ∨ (s1 < 0 ∧ 0 < s2)) ∧ t1 < 0 ∧ 0 < t2) := by
    rcases h with ⟨h1, h2 | h2⟩
    · exact .inl ⟨h1, h2⟩
    · exact .inr ⟨h1, h2⟩
  · have hs : s1 < 0 ∧ 0 < s2 := by omega
    have e1 : 0 < b.2 - P.2 := by
      have := pos s2 t1 hs.2 k1
      rw [← i4, Int.mul_comm] at this
      exact pos_of_mul (by omega) this
    have e2 : 0 < Q.2 - a.2 := by
      have := pos (-s1) (-t2) (by omega) (by omega)
      rw [← i5, Int.mul_comm] at this
      exact pos_of_mul (by omega) this
    rw [decide_eq_false (show ¬ (a.2 ≤ Q.2 ∧ Q.2 < b.2 ∧ 0 < t2) by omega), decide_eq_false (show ¬ (P.2 < b.2 ∧ b.2 ≤ Q.2 ∧ s2 < 0) by omega), decide_eq_decide.2 (show (a.2 ≤ P.2 ∧ P.2 < b.2 ∧ 0 < t1) ↔ a.2 ≤ P.2 by omega), decide_eq_decide.2 (show (P.2 < a.2 ∧ a.2 ≤ Q.2 ∧ s1 < 0) ↔ P.2 < a.2 by omega)]
    by_cases c : a.2 ≤ P.2
    · rw [decide_eq_true c, decide_eq_false (show ¬ P.2 < a.2 by omega)]; rfl
    · rw [decide_eq_false c, decide_eq_true (show P.2 < a.2 by omega)]; rfl
  · have hs : 0 < s1 ∧ s2 < 0 := by omega
    have e1 : 0 < b.2 - P.2 := by
      have h0 := pos (-s2) (-t1) (by omega) (by omega)
      have h1 : (b.2 - a.2) * -s2 + (Q.2 - P.2) * -t1 = (t2 - t1) * (b.2 - P.2) := by grind
      rw [h1] at h0
      exact pos_of_mul (by omega) h0
    have e2 : 0 < Q.2 - a.2 := by
      have h0 := pos s1 t2 (by omega) (by omega)
      have h1 : (b.2 - a.2) * s1 + (Q.2 - P.2) * t2 = (t2 - t1) * (Q.2 - a.2) := by grind
      rw [h1] at h0
      exact pos_of_mul (by omega) h0
    rw [decide_eq_false (show ¬ (a.2 ≤ P.2 ∧ P.2 < b.2 ∧ 0 < t1) by omega), decide_eq_false (show ¬ (P.2 < a.2 ∧ a.2 ≤ Q.2 ∧ s1 < 0) by omega), decide_eq_decide.2 (show (a.2 ≤ Q.2 ∧ Q.2 < b.2 ∧ 0 < t2) ↔ Q.2 < b.2 by omega), decide_eq_decide.2 (show (P.2 < b.2 ∧ b.2 ≤ Q.2 ∧ s2 < 0) ↔ b.2 ≤ Q.2 by omega)]
    by_cases c : b.2 ≤ Q.2
    · rw [decide_eq_true c, decide_eq_false (show ¬ Q.2 < b.2 by omega)]; rfl
    · rw [decide_eq_false c, decide_eq_true (show Q.2 < b.2 by omega)]; rfl
theorem crs_swap2 (h : crs P Q a b) : crs P Q b a := by
  have e1 := gsd_swap a b P
  have e2 := gsd_swap a b Q
  unfold crs at h ⊢
  omega
theorem crs_swap1 (h : crs P Q a b) : crs Q P a b := by
  have e1 := gsd_swap P Q a
  have e2 := gsd_swap P Q b
  unfold crs at h ⊢
  omega
theorem edge_cross (hpq : P.2 ≤ Q.2) (h : crs P Q a b) : (glf a b P != glf a b Q) = !(spf P Q a != spf P Q b) := by
  rcases Int.le_total a.2 b.2 with g | g
  · exact edge_cross0 hpq g h
  · rw [← glf_swap a b P, ← glf_swap a b Q, edge_cross0 hpq g (crs_swap2 h)]
    cases spf P Q a <;> cases spf P Q b <;> rfl
theorem gmt_cases (h : gmt P Q a b = true) : gon P Q a = true ∨ gon P Q b = true ∨ gon a b P = true ∨ gon a b Q = true ∨ crs P Q a b := by
  unfold gmt at h
  rw [Bool.or_eq_true, Bool.or_eq_true, Bool.or_eq_true, Bool.or_eq_true, Bool.and_eq_true, decide_eq_true_iff, decide_eq_true_iff, gsgn_neg, gsgn_neg] at h
  rcases h with (((h | h) | h) | h) | ⟨h1, h2⟩
  · exact .inl h
  · exact .inr (.inl h)
  · exact .inr (.inr (.inl h))
  · exact .inr (.inr (.inr (.inl h)))
  · exact .inr (.inr (.inr (.inr ⟨h1.elim .inr .inl, h2.elim .inr .inl⟩)))
theorem gmt_1 (h : gon P Q a = true) : gmt P Q a b = true := by unfold gmt; rw [h]; rfl
theorem gmt_2 (h : gon P Q b = true) : gmt P Q a b = true := by unfold gmt; rw [h, Bool.or_true]; rfl
theorem gmt_3 (h : gon a b P = true) : gmt P Q a b = true := by unfold gmt; rw [h, Bool.or_true, Bool.true_or, Bool.true_or]
theorem gmt_sw1 (P Q a b : Int × Int) : gmt Q P a b = gmt P Q a b := by
  cases h : gmt P Q a b with
  | false => exact gmt_swap1 _ _ _ _ h
  | true =>
    cases g : gmt Q P a b with
    | false => rw [gmt_swap1 _ _ _ _ g] at h; cases h
    | true => rfl
end
/-- an odd number of the first n is true -/
def xoN (f : Nat → Bool) : Nat → Bool
  | 0 => false
  | n + 1 => xoN f n != f n
theorem xoN_congr {f g : Nat → Bool} : ∀ {n : Nat}, (∀ k, k < n → f k = g k) → xoN f n = xoN g n := by
  intro n
  induction n with
  | zero => intro _; rfl
  | succ n ih => intro h; rw [xoN, xoN, ih fun k hk => h k (by omega), h n (by omega)]
theorem xoN_add (f g : Nat → Bool) : ∀ n, xoN (fun k => f k != g k) n = (xoN f n != xoN g n) := by
  intro n
  induction n with
  | zero => rfl
  | succ n ih =>
    rw [xoN, xoN, xoN, ih]
    cases xoN f n <;> cases xoN g n <;> cases f n <;> cases g n <;> rfl
theorem xoN_none {f : Nat → Bool} : ∀ {n : Nat}, (∀ k, k < n → f k = false) → xoN f n = false := by
  intro n
  induction n with
  | zero => intro _; rfl
  | succ n ih => intro h; rw [xoN, ih fun k hk => h k (by omega), h n (by omega)]; rfl
theorem xoN_one {i : Nat} : ∀ {n : Nat}, i < n → xoN (fun k => decide (k = i)) n = true := by
  intro n
  induction n with
  | zero => intro h; omega
  | succ n ih =>
    intro h
    rw [xoN]
    by_cases g : n = i
    · rw [xoN_none fun k hk => decide_eq_false (by omega), decide_eq_true g]; rfl
    · rw [ih (by omega), decide_eq_false g]; rfl
end PF
namespace Go.Proofs.YtlpibeloedfbdaaGreat
open Go.RowKit PF JR
theorem xrs_xo (l : List (Int × Int)) (p : Int × Int) : ∀ n, xrs l p n = xoN (rin l p) n := by
  intro n
  induction n with
  | zero => rfl
  | succ n ih => rw [xrs, xoN, ih]
theorem xoN_cyc {l : List (Int × Int)} (q : Int × Int → Bool) (h0 : 0 < l.length) : xoN (fun k => q (at' l k) != q (nxp l k)) l.length = false := by
  have key : ∀ k, k < l.length → xoN (fun k => q (at' l k) != q (nxp l k)) k = (q (at' l 0) != q (at' l k)) := by
    intro k
    induction k with
    | zero => intro _; simp [xoN]
    | succ k ih =>
      intro hk
      rw [xoN, ih (by omega), nxp_mid hk]
      cases q (at' l 0) <;> cases q (at' l k) <;> cases q (at' l (k + 1)) <;> rfl
  obtain ⟨n, hn⟩ : ∃ n, l.length = n + 1 := ⟨l.length - 1, by omega⟩
  rw [hn, xoN, key n (by omega), nxp_end hn.symm]
  cases q (at' l 0) <;> cases q (at' l n) <;> rfl
/-- **a segment whose ends are alike off a ring, and that meets an edge, meets another one** -/
theorem two_met {l : List (Int × Int)} {P Q : Int × Int} (h2 : 2 ≤ l.length) (hP : ∀ k, k < l.length → gon (at' l k) (nxp l k) P = false) (hQ : ∀ k, k < l.length → gon (at' l k) (nxp l k) Q = false)
    (hx : xrs l P l.length = xrs l Q l.length) {k0 : Nat} (hk0 : k0 < l.length) (hm : gmt P Q (at' l k0) (nxp l k0) = true) : ∃ k1, k1 < l.length ∧ k1 ≠ k0 ∧ gmt P Q (at' l k1) (nxp l k1) = true := by
  refine Classical.byContradiction fun hno => ?_
  have hall : ∀ k, k < l.length → k ≠ k0 → gmt P Q (at' l k) (nxp l k) = false := by
    intro k hk hne
    cases e : gmt P Q (at' l k) (nxp l k) with
    | false => rfl
    | true => exact absurd ⟨k, hk, hne, e⟩ hno
  clear hno
  have hc : crs P Q (at' l k0) (nxp l k0) := by
    rcases gmt_cases hm with g | g | g | g | g
    · exfalso
      rcases Nat.eq_zero_or_pos k0 with e | e
      · have := hall (l.length - 1) (by omega) (by omega)
        rw [gmt_2 (by rw [nxp_end (by omega), ← e]; exact g)] at this
        cases this
      · have := hall (k0 - 1) (by omega) (by omega)
        rw [gmt_2 (by rw [nxp_mid (by omega), show k0 - 1 + 1 = k0 by omega]; exact g)] at this
        cases this
    · exfalso
      rcases Nat.lt_or_ge (k0 + 1) l.length with e | e
      · have := hall (k0 + 1) e (by omega)
        rw [gmt_1 (by rw [nxp_mid e] at g; exact g)] at this
        cases this
      · have := hall 0 (by omega) (by omega)
        rw [gmt_1 (by rw [nxp_end (by omega)] at g; exact g)] at this
        cases this
    · rw [hP k0 hk0] at g; cases g
    · rw [hQ k0 hk0] at g; cases g
    · exact g
  have core : ∀ P Q : Int × Int, P.2 ≤ Q.2 → crs P Q (at' l k0) (nxp l k0) → (∀ k, k < l.length → k ≠ k0 → gmt P Q (at' l k) (nxp l k) = false) → xrs l P l.length = xrs l Q l.length → False := by
    intro P Q hpq hc hall hx
    have e : ∀ k, k < l.length → (rin l P k != rin l Q k) = ((spf P Q (at' l k) != spf P Q (nxp l k)) != decide (k = k0)) := by
      intro k hk
      show (rcIn _ _ _ _ _ _ != rcIn _ _ _ _ _ _) = _
      rw [← glf_rc, ← glf_rc]
      by_cases g : k = k0
      · rw [g, edge_cross hpq hc, decide_eq_true rfl]
        cases (spf P Q (at' l k0) != spf P Q (nxp l k0)) <;> rfl
      · rw [edge_keep1 hpq (hall k hk g), decide_eq_false g]
        cases (spf P Q (at' l k) != spf P Q (nxp l k)) <;> rfl
    have s := xoN_congr e
    rw [xoN_add, xoN_add (fun k => spf P Q (at' l k) != spf P Q (nxp l k)), xoN_cyc (spf P Q) (by omega), xoN_one hk0, ← xrs_xo, ← xrs_xo, hx] at s
    simp at s
  rcases Int.le_total P.2 Q.2 with g | g
  · exact core P Q g hc hall hx
  · exact core Q P g (crs_swap1 hc) (fun k hk hne => by rw [gmt_sw1]; exact hall k hk hne) hx.symm
/-- what two segments have in common, IntersectsSegment says, if the first one's ends are not on the second one -/
theorem gmt_sx {A B c d : Int × Int} (h : gmt A B c d = true) (hA : gon c d A = false) (hB : gon c d B = false) : sxp A B c d = true := by
  rcases gmt_cases h with g | g | g | g | g
  · rw [← sxp_swap2]; exact sxp_on (by rw [← gon_rc]; exact g) d
  · exact sxp_on (by rw [← gon_rc]; exact g) c
  · rw [hA] at g; cases g
  · rw [hB] at g; cases g
  · have ho : ovl A.1 A.2 B.1 B.2 c.1 c.2 d.1 d.2 = false := by
      have e1 := gsd_side A B c
      have e2 := gsd_side c d A
      unfold crs at g
      unfold ovl
      rw [Bool.or_eq_false_iff, Bool.and_eq_false_iff, Bool.and_eq_false_iff]
      exact ⟨.inl (decide_eq_false (by omega)), .inl (decide_eq_false (by omega))⟩
    show sx _ _ _ _ _ _ _ _ = true
    rw [sx_meets ho, ← gmt_meets ho]
    exact h
theorem sx_gmt {A B c d : Int × Int} (h : sxp A B c d = true) : gmt A B c d = true := by
  by_cases hcd : c = d
  · subst hcd
    exact gmt_1 (by rw [gon_rc]; exact sxp_pt h)
  have h0 := h
  unfold sxp at h
  rw [sx_or] at h
  split at h
  · cases h
  split at h
  · rename_i g
    rcases g with g | g | g | g
    · exact gmt_1 (by rw [show c = A from Prod.ext g.1.symm g.2.symm]; exact gon_a _ _)
    · exact gmt_2 (by rw [show d = A from Prod.ext g.1.symm g.2.symm]; exact gon_a _ _)
    · exact gmt_1 (by rw [show c = B from Prod.ext g.1.symm g.2.symm]; exact gon_b _ _)
    · exact gmt_2 (by rw [show d = B from Prod.ext g.1.symm g.2.symm]; exact gon_b _ _)
  split at h
  · rw [Bool.or_eq_true] at h
    rcases h with h | h
    · exact gmt_1 (by rw [gon_rc]; exact h)
    · exact gmt_2 (by rw [gon_rc]; exact h)
  · rename_i g
    have ho : ovl A.1 A.2 B.1 B.2 c.1 c.2 d.1 d.2 = false := by
      unfold ovl
      rw [Bool.or_eq_false_iff, Bool.and_eq_false_iff, Bool.and_eq_false_iff]
      refine ⟨.inl (decide_eq_false g), ?_⟩
      by_cases g1 : side c.1 c.2 d.1 d.2 A.1 A.2 = 0
      · by_cases g2 : side c.1 c.2 d.1 d.2 B.1 B.2 = 0
        · exfalso
          have k1 : (d.1 - c.1) * side A.1 A.2 B.1 B.2 c.1 c.2 = 0 := by unfold side at g1 g2 ⊢; grind
          have k2 : (d.2 - c.2) * side A.1 A.2 B.1 B.2 c.1 c.2 = 0 := by unfold side at g1 g2 ⊢; grind
          have k3 := (Int.mul_eq_zero.1 k1).resolve_right g
          have k4 := (Int.mul_eq_zero.1 k2).resolve_right g
          exact hcd (Prod.ext (by omega) (by omega))
        · exact .inr (decide_eq_false g2)
      · exact .inl (decide_eq_false g1)
    rw [gmt_meets ho]
    exact h
/-- **a ring and a segment, by geometry** -/
theorem risP_ring {l : List (Int × Int)} (h3 : 3 ≤ l.length) (hn : nSeg true l = l.length) (A B : Int × Int) :
    risP l A B = (ringHas l A true || ringHas l B true || anyN (fun k => gmt (at' l k) (nxp l k) A B) l.length) := by
  have ebx : ppB true l = box l := by
    unfold ppB tooS; rw [if_neg (by simp; try omega)]
  have hbox := (box_spec l (by omega)).1
  have hmem : ∀ k, k < l.length → at' l k ∈ l := fun k hk => List.mem_of_getElem? (at_get hk)
  have hmemx : ∀ k, k < l.length → nxp l k ∈ l := fun k hk => by
    rcases Nat.lt_or_ge (k + 1) l.length with e | e
    · rw [nxp_mid e]; exact hmem _ e
    · rw [nxp_end (by omega)]; exact hmem _ (by omega)
  have nearP : ∀ P : Int × Int, (P = A ∨ P = B) → ringHas l P true = true → bmB (min A.1 B.1, min A.2 B.2, max A.1 B.1, max A.2 B.2) (ppB true l) = true := by
    intro P hP h
    unfold ringHas at h
    rw [Bool.and_eq_true] at h
    have h := of_decide_eq_true h.1
    unfold bmB
    rw [decide_eq_true_iff]
    simp only at h ⊢
    rcases hP with rfl | rfl <;> omega
  cases gA : ringHas l A true with
  | true => unfold risP; rw [nearP A (.inl rfl) gA, gA]; rfl
  | false =>
    cases gB : ringHas l B true with
    | true => unfold risP; rw [nearP B (.inr rfl) gB, gA, gB]; rfl
    | false =>
      rw [has_nobox h3, hn, Bool.or_eq_false_iff] at gA gB
      have oA : ∀ k, k < l.length → gon (at' l k) (nxp l k) A = false := fun k hk => by rw [gon_rc]; exact aon_ron _ gA.1 k hk
      have oB : ∀ k, k < l.length → gon (at' l k) (nxp l k) B = false := fun k hk => by rw [gon_rc]; exact aon_ron _ gB.1 k hk
      simp only [Bool.or_false, Bool.false_or]
      rw [Bool.eq_iff_iff]
      unfold risP
      rw [has_nobox h3, has_nobox h3, hn, gA.1, gA.2, gB.1, gB.2]
      simp only [Bool.or_false, Bool.false_or, Bool.and_eq_true, decide_eq_true_iff, anyN_iff]
      constructor
      · rintro ⟨-, h⟩
        obtain ⟨k, hk, e⟩ := cntN_pos (f := fun k => sxp A B (at' l k) (nxp l k)) (n := l.length) (by omega)
        exact ⟨k, hk, by rw [gmt_sym]; exact sx_gmt e⟩
      · rintro ⟨k0, hk0, e⟩
        rw [gmt_sym] at e
        obtain ⟨k1, hk1, hne, e1⟩ := two_met (by omega) oA oB (by rw [gA.2, gB.2]) hk0 e
        have x0 := gmt_sx e (oA _ hk0) (oB _ hk0)
        have x1 := gmt_sx e1 (oA _ hk1) (oB _ hk1)
        refine ⟨?_, ?_⟩
        · have m1 := hbox _ (hmem k0 hk0)
          have m2 := hbox _ (hmemx k0 hk0)
          unfold sxp at x0
          rw [sx_or] at x0
          split at x0
          · cases x0
          · rename_i g
            rw [ebx]
            unfold apt at g
            unfold bmB
            rw [decide_eq_true_iff]
            simp only
            omega
        · rcases Nat.lt_or_ge k0 k1 with g | g
          · exact cnt_pair g hk1 x0 x1
          · exact cnt_pair (show k1 < k0 by omega) hk0 x1 x0
end Go.Proofs.YtlpibeloedfbdaaGreat
set_option linter.unusedSimpArgs false
set_option linter.unusedVariables false
/-! Plane geometry: two segments meet just if they have a point in common (whole, once all is scaled); so a path of two segments that cross keeps its side of a ring that it does not meet. -/
namespace PF
section
variable {P Q X Y M a b c d p q r : Int × Int} {D : Int}
theorem mulD_le (hD : 0 < D) {x y : Int} : D * x ≤ D * y ↔ x ≤ y := ⟨fun h => Int.le_of_mul_le_mul_left h hD, fun h => Int.mul_le_mul_of_nonneg_left h (by omega)⟩
theorem mulD_zero (hD : 0 < D) {x : Int} : D * D * x = 0 ↔ x = 0 := by
  constructor
  · intro h
    have h2 := mpp hD hD
    rcases Int.mul_eq_zero.1 h with g | g
    · omega
    · exact g
  · intro h; rw [h, Int.mul_zero]
theorem gon_swap (a b p : Int × Int) : gon b a p = gon a b p := by
  unfold gon gwi; rw [gsd_swap a b p, Int.min_comm, Int.max_comm, Int.min_comm b.2, Int.max_comm b.2, decide_eq_decide.2 (show -gsd a b p = 0 ↔ gsd a b p = 0 by omega)]
theorem gon_deg (h : gon a a X = true) : X = a := by
  have h := (gon_iff.1 h).1
  exact Prod.ext (by omega) (by omega)
/-- a point on a segment is a mean of its ends -/
theorem gon_par (h : gon P Q X = true) : ∃ n k : Int, 0 ≤ k ∧ k ≤ n ∧ 0 < n ∧ n * X.1 = (n - k) * P.1 + k * Q.1 ∧ n * X.2 = (n - k) * P.2 + k * Q.2 := by
  by_cases e : P = Q
  · subst e
    have e := gon_deg h
    subst e
    exact ⟨1, 0, by omega, by omega, by omega, by omega, by omega⟩
  obtain ⟨hb, hz⟩ := gon_iff.1 h
  have d1 : 0 ≤ (X.1 - P.1) * (Q.1 - P.1) := by
    rcases Int.le_total P.1 Q.1 with g | g
    · exact mqq (by omega) (by omega)
    · exact mrr (by omega) (by omega)
  have d2 : 0 ≤ (X.2 - P.2) * (Q.2 - P.2) := by
    rcases Int.le_total P.2 Q.2 with g | g
    · exact mqq (by omega) (by omega)
    · exact mrr (by omega) (by omega)
  have d3 : 0 ≤ (Q.1 - X.1) * (Q.1 - P.1) := by
    rcases Int.le_total P.1 Q.1 with g | g
    · exact mqq (by omega) (by omega)
    · exact mrr (by omega) (by omega)
  have d4 : 0 ≤ (Q.2 - X.2) * (Q.2 - P.2) := by
    rcases Int.le_total P.2 Q.2 with g | g
    · exact mqq (by omega) (by omega)
    · exact mrr (by omega) (by omega)
  have e1 : (Q.1 - P.1) * (Q.1 - P.1) = (X.1 - P.1) * (Q.1 - P.1) + (Q.1 - X.1) * (Q.1 - P.1) := by grind
  have e2 : (Q.2 - P.2) * (Q.2 - P.2) = (X.2 - P.2) * (Q.2 - P.2) + (Q.2 - X.2) * (Q.2 - P.2) := by grind
  refine ⟨(Q.1 - P.1) * (Q.1 - P.1) + (Q.2 - P.2) * (Q.2 - P.2), (X.1 - P.1) * (Q.1 - P.1) + (X.2 - P.2) * (Q.2 - P.2), by omega, by omega, ?_, ?_, ?_⟩
  · have s1 : 0 ≤ (Q.1 - P.1) * (Q.1 - P.1) := by omega
    have s2 : 0 ≤ (Q.2 - P.2) * (Q.2 - P.2) := by omega
    rcases (show Q.1 - P.1 ≠ 0 ∨ Q.2 - P.2 ≠ 0 from Classical.byContradiction fun hn => e (Prod.ext (by omega) (by omega))) with g | g
    · have : (Q.1 - P.1) * (Q.1 - P.1) ≠ 0 := fun h => g ((Int.mul_eq_zero.1 h).elim id id)
      omega
    · have : (Q.2 - P.2) * (Q.2 - P.2) ≠ 0 := fun h => g ((Int.mul_eq_zero.1 h).elim id id)
      omega
  · unfold gsd at hz; grind
  · unfold gsd at hz; grind
/-- how far along a b -/
def tau (a b p : Int × Int) : Int := (p.1 - a.1) * (b.1 - a.1) + (p.2 - a.2) * (b.2 - a.2)
theorem tau_pos (h : a ≠ b) : 0 < tau a b b := by
  unfold tau
  have s1 : 0 ≤ (b.1 - a.1) * (b.1 - a.1) := by
    rcases Int.le_total a.1 b.1 with g | g
    · exact mqq (by omega) (by omega)
    · exact mrr (by omega) (by omega)
  have s2 : 0 ≤ (b.2 - a.2) * (b.2 - a.2) := by
    rcases Int.le_total a.2 b.2 with g | g
    · exact mqq (by omega) (by omega)
    · exact mrr (by omega) (by omega)
  rcases (show b.1 - a.1 ≠ 0 ∨ b.2 - a.2 ≠ 0 from Classical.byContradiction fun hn => h (Prod.ext (by omega) (by omega))) with g | g
  · have : (b.1 - a.1) * (b.1 - a.1) ≠ 0 := fun h => g ((Int.mul_eq_zero.1 h).elim id id)
    omega
  · have : (b.2 - a.2) * (b.2 - a.2) ≠ 0 := fun h => g ((Int.mul_eq_zero.1 h).elim id id)
    omega
theorem tau_1 (hp : gsd a b p = 0) : tau a b b * (p.1 - a.1) = tau a b p * (b.1 - a.1) := by unfold tau; unfold gsd at hp; grind
theorem tau_2 (hp : gsd a b p = 0) : tau a b b * (p.2 - a.2) = tau a b p * (b.2 - a.2) := by unfold tau; unfold gsd at hp; grind
theorem col_box {N t1 t2 t3 e x1 x2 x3 : Int} (hN : 0 < N) (h1 : N * x1 = t1 * e) (h2 : N * x2 = t2 * e) (h3 : N * x3 = t3 * e) (hb : t1 ≤ t3 ∧ t3 ≤ t2) : min x1 x2 ≤ x3 ∧ x3 ≤ max x1 x2 := by
  have l1 := mulD_le hN (x := x1) (y := x3)
  have l2 := mulD_le hN (x := x3) (y := x2)
  have l3 := mulD_le hN (x := x3) (y := x1)
  have l4 := mulD_le hN (x := x2) (y := x3)
  rcases Int.le_total 0 e with g | g
  · have k1 := Int.mul_le_mul_of_nonneg_right hb.1 g
    have k2 := Int.mul_le_mul_of_nonneg_right hb.2 g
    omega
  · have k1 := mrr (m := t1 - t3) (n := e) (by omega) g
    have k2 := mrr (m := t3 - t2) (n := e) (by omega) g
    rw [Int.sub_mul] at k1 k2
    omega
/-- points of one line, in order -/
theorem col_on (hab : a ≠ b) (hp : gsd a b p = 0) (hq : gsd a b q = 0) (hr : gsd a b r = 0) (h : tau a b p ≤ tau a b r ∧ tau a b r ≤ tau a b q) : gon p q r = true := by
  have hN := tau_pos hab
  have p1 := tau_1 hp
  have p2 := tau_2 hp
  have q1 := tau_1 hq
  have q2 := tau_2 hq
  have r1 := tau_1 hr
  have r2 := tau_2 hr
  clear hp hq hr
  generalize tau a b b = N at *
  generalize tau a b p = t1 at *
  generalize tau a b q = t2 at *
  generalize tau a b r = t3 at *
  have c1 := col_box hN p1 q1 r1 h
  have c2 := col_box hN p2 q2 r2 h
  refine gon_iff.2 ⟨by omega, ?_⟩
  have k : N * N * gsd p q r = 0 := by
    have e : N * N * gsd p q r = (N * (q.1 - a.1) - N * (p.1 - a.1)) * (N * (r.2 - a.2) - N * (p.2 - a.2)) - (N * (q.2 - a.2) - N * (p.2 - a.2)) * (N * (r.1 - a.1) - N * (p.1 - a.1)) := by unfold gsd; grind
    rw [e, p1, p2, q1, q2, r1, r2]
    grind
  exact (mulD_zero hN).1 k
/-- **two segments with a point in common meet** -/
theorem gmt_point (h1 : gon P Q X = true) (h2 : gon a b X = true) : gmt P Q a b = true := by
  cases hm : gmt P Q a b with
  | true => rfl
  | false =>
    exfalso
    obtain ⟨g1, g2, g3, g4, g5⟩ := gmt_f hm
    obtain ⟨n, k, k0, kn, n0, e1, e2⟩ := gon_par h1
    obtain ⟨m, j, j0, jm, m0, f1, f2⟩ := gon_par h2
    have i3 := se3 (P := P) (Q := Q) (a := a) (b := b)
    have zX := (gon_iff.1 h2).2
    have zY := (gon_iff.1 h1).2
    have c1 : (n - k) * gsd a b P + k * gsd a b Q = 0 := by
      have : n * gsd a b X = (n - k) * gsd a b P + k * gsd a b Q := by unfold gsd; grind
      rw [← this, zX, Int.mul_zero]
    have c2 : (m - j) * gsd P Q a + j * gsd P Q b = 0 := by
      have : m * gsd P Q X = (m - j) * gsd P Q a + j * gsd P Q b := by unfold gsd; grind
      rw [← this, zY, Int.mul_zero]
    have cz : ∀ {n x y : Int}, 0 < n → n * x = n * y → x = y := fun hn h => Int.eq_of_mul_eq_mul_left (by omega) h
    have hk0 : k ≠ 0 := fun h => by
      subst h
      have : X = P := Prod.ext (cz n0 (by rw [e1]; grind)) (cz n0 (by rw [e2]; grind))
      rw [this, g3] at h2; cases h2
    have hkn : k ≠ n := fun h => by
      subst h
      have : X = Q := Prod.ext (cz n0 (by rw [e1]; omega)) (cz n0 (by rw [e2]; omega))
      rw [this, g4] at h2; cases h2
    have hj0 : j ≠ 0 := fun h => by
      subst h
      have : X = a := Prod.ext (cz m0 (by rw [f1]; grind)) (cz m0 (by rw [f2]; grind))
      rw [this, g1] at h1; cases h1
    have hjm : j ≠ m := fun h => by
      subst h
      have : X = b := Prod.ext (cz m0 (by rw [f1]; omega)) (cz m0 (by rw [f2]; omega))
      rw [this, g2] at h1; cases h1
    have opp : ∀ {x y s t : Int}, 0 < s → 0 < t → s * x + t * y = 0 → (x = 0 ∧ y = 0) ∨ (0 < x ∧ y < 0) ∨ (x < 0 ∧ 0 < y) := by
      intro x y s t hs ht h
      rcases Int.lt_trichotomy x 0 with g | g | g
      · have := mpn hs g
        have := pos_of_mul (m := t) (n := y) (by omega) (by omega)
        omega
      · subst g
        rw [Int.mul_zero] at h
        rcases Int.mul_eq_zero.1 (show t * y = 0 by omega) with g | g <;> omega
      · have := mpp hs g
        have := neg_of_mul (m := t) (n := y) (by omega) (by omega)
        omega
    have o1 := opp (by omega) (by omega) c1
    have o2 := opp (by omega) (by omega) c2
    have hz : gsd a b P = 0 ∧ gsd a b Q = 0 := by omega
    clear o1 o2 g5 c1 c2 i3
    have hab : a ≠ b := fun h => by
      subst h
      have := gon_deg h2
      subst this
      rw [g1] at h1; cases h1
    have hN := tau_pos hab
    have tX : n * tau a b X = (n - k) * tau a b P + k * tau a b Q := by unfold tau; grind
    have tY : m * tau a b X = j * tau a b b := by unfold tau; grind
    have za := gsd_a a b
    have zb := gsd_b a b
    have ta : tau a b a = 0 := by unfold tau; grind
    have w1 : ¬ (0 ≤ tau a b P ∧ tau a b P ≤ tau a b b) := fun h => by rw [col_on hab za zb hz.1 (by rw [ta]; exact h)] at g3; cases g3
    have w2 : ¬ (0 ≤ tau a b Q ∧ tau a b Q ≤ tau a b b) := fun h => by rw [col_on hab za zb hz.2 (by rw [ta]; exact h)] at g4; cases g4
    have w3 : ¬ (tau a b P ≤ 0 ∧ 0 ≤ tau a b Q) := fun h => by rw [col_on hab hz.1 hz.2 za (by rw [ta]; exact h)] at g1; cases g1
    have w4 : ¬ (tau a b Q ≤ 0 ∧ 0 ≤ tau a b P) := fun h => by rw [gon_swap, col_on hab hz.2 hz.1 za (by rw [ta]; exact h)] at g1; cases g1
    have x0 : 0 < tau a b X := pos_of_mul (m := m) (by omega) (by rw [tY]; exact mpp (by omega) hN)
    have x1 : tau a b X < tau a b b := by
      have : 0 < m * (tau a b b - tau a b X) := by
        rw [Int.mul_sub, tY, ← Int.sub_mul]; exact mpp (by omega) hN
      have := pos_of_mul (m := m) (by omega) this
      omega
    generalize tau a b P = tp at *
    generalize tau a b Q = tq at *
    generalize tau a b X = tx at *
    generalize tau a b b = N at *
    -- P and Q on one side of both a and b
    rcases (show (N < tp ∧ N < tq) ∨ (tp < 0 ∧ tq < 0) by omega) with g | g
    · have s1 := mpp (m := n - k) (n := tp - N) (by omega) (by omega)
      have s2 := mpp (m := k) (n := tq - N) (by omega) (by omega)
      have s3 : n * (tx - N) = (n - k) * (tp - N) + k * (tq - N) := by rw [Int.mul_sub, tX]; grind
      have s4 := mpn (m := n) (n := tx - N) (by omega) (by omega)
      omega
    · have s1 := mpn (m := n - k) (n := tp) (by omega) (by omega)
      have s2 := mpn (m := k) (n := tq) (by omega) (by omega)
      have s3 := mpp (m := n) (n := tx) (by omega) (by omega)
      omega
end
end PF
namespace Go.Proofs.YtlpibeloedfbdaaGreat
open Go.RowKit PF JR
end Go.Proofs.YtlpibeloedfbdaaGreat
set_option linter.unusedSimpArgs false
set_option linter.unusedVariables false
/-! Rings that meet, whichever is asked; rectangles' rings. -/
namespace Go.Proofs.YtlpibeloedfbdaaGreat
open Go.RowKit PF JR
section
variable {l h m : List (Int × Int)} {p : Int × Int}
theorem has_t (h3 : 3 ≤ l.length) : ringHas l p true = true ↔ aon l p l.length = true ∨ xrs l p l.length = true := by
  rw [ringHas_al true h3]
  cases aon l p l.length <;> cases xrs l p l.length <;> simp
/-- no edge of one ring meets one of the other -/
def Apt (l h : List (Int × Int)) : Prop := ∀ i k, i < l.length → k < h.length → gmt (at' l i) (nxp l i) (at' h k) (nxp h k) = false
theorem Apt.symm (a : Apt l h) : Apt h l := fun i k hi hk => by rw [gmt_sym]; exact a k i hk hi
theorem aon_no {n : Nat} (h1 : ∀ k, k < n → gon (at' l k) (nxp l k) p = false) : aon l p n = false := aon_none n fun k hk => by
  show rcOn _ _ _ _ _ _ = false
  rw [← gon_rc]; exact h1 k hk
theorem Apt.off (a : Apt l h) {k : Nat} (hk : k < l.length) : aon h (at' l k) h.length = false := aon_no fun j hj => by
  cases e : gon (at' h j) (nxp h j) (at' l k) with
  | false => rfl
  | true =>
    have := a k j hk hj
    rw [gmt_3 e] at this
    cases this
/-- all corners of a ring are on the same side of another one -/
theorem Apt.side (a : Apt l h) (h0 : 0 < h.length) : ∀ k, k < l.length → xrs h (at' l k) h.length = xrs h (at' l 0) h.length := by
  intro k
  induction k with
  | zero => intro _; rfl
  | succ k ih =>
    intro hk
    rw [← ih (by omega)]
    refine (ring_keep h0 fun j hj => ?_).symm
    have := a k j (by omega) hj
    rw [nxp_mid hk] at this
    exact this
theorem at_of_mem {p : Int × Int} (hp : p ∈ l) : ∃ k, k < l.length ∧ at' l k = p := by
  obtain ⟨k, hk, e⟩ := List.mem_iff_getElem.1 hp
  refine ⟨k, hk, ?_⟩
  unfold at'
  rw [List.getD_eq_getElem?_getD, List.getElem?_eq_getElem hk, e]; rfl
theorem mem_at {k : Nat} (hk : k < l.length) : at' l k ∈ l := List.mem_of_getElem? (at_get hk)
theorem mem_nx {k : Nat} (hk : k < l.length) : nxp l k ∈ l := by
  rcases Nat.lt_or_ge (k + 1) l.length with e | e
  · rw [nxp_mid e]; exact mem_at e
  · rw [nxp_end (by omega)]; exact mem_at (by omega)
theorem xrs_top (ht : ∀ q ∈ h, q.2 ≤ p.2) : xrs h p h.length = false := xrs_none _ fun k hk => by
  show rcIn _ _ _ _ _ _ = false
  rw [← glf_rc]
  have h1 := ht _ (mem_at hk)
  have h2 := ht _ (mem_nx hk)
  unfold glf
  split <;> exact decide_eq_false (by omega)
end
section
variable {l m : List (Int × Int)}
theorem ppBq (h3 : 3 ≤ l.length) : ppB true l = box l := by unfold ppB tooS; rw [if_neg (by simp; try omega)]
theorem hasq_in {p : Int × Int} (h : ringHas l p true = true) : inB (ppB true l) p = true := by
  unfold ringHas at h
  rw [Bool.and_eq_true] at h
  exact h.1
/-- some edge of m and the ring l meet -/
def egm (l m : List (Int × Int)) : Bool := anyN (fun i => anyN (fun k => gmt (at' l k) (nxp l k) (at' m i) (nxp m i)) l.length) m.length
theorem egm_sym : egm l m = egm m l := by
  have h : ∀ l m : List (Int × Int), egm l m = true → egm m l = true := by
    intro l m h
    unfold egm at h ⊢
    obtain ⟨i, hi, h⟩ := anyN_iff.1 h
    obtain ⟨k, hk, h⟩ := anyN_iff.1 h
    exact anyN_hit hk (anyN_hit hi (by rw [gmt_sym]; exact h))
  rw [Bool.eq_iff_iff]
  exact ⟨h l m, h m l⟩
theorem any_ris (h3 : 3 ≤ l.length) (hn : nSeg true l = l.length) (m3 : 3 ≤ m.length) (mn : nSeg true m = m.length) : anyN (risV l m) (nSeg true m) = (anyN (fun k => ringHas l (at' m k) true) m.length || egm l m) := by
  rw [mn, Bool.eq_iff_iff, Bool.or_eq_true]
  unfold egm
  rw [anyN_iff, anyN_iff, anyN_iff]
  have hr : ∀ i, risV l m i = (ringHas l (at' m i) true || ringHas l (nxp m i) true || anyN (fun k => gmt (at' l k) (nxp l k) (at' m i) (nxp m i)) l.length) := fun i => risP_ring h3 hn (at' m i) (nxp m i)
  constructor
  · rintro ⟨i, hi, e⟩
    rw [hr, Bool.or_eq_true, Bool.or_eq_true] at e
    rcases e with (e | e) | e
    · exact .inl ⟨i, hi, e⟩
    · obtain ⟨k, hk, e2⟩ := at_of_mem (mem_nx hi)
      exact .inl ⟨k, hk, by rw [e2]; exact e⟩
    · exact .inr ⟨i, hi, e⟩
  · rintro (⟨k, hk, e⟩ | ⟨i, hi, e⟩)
    · exact ⟨k, hk, by rw [hr, e]; rfl⟩
    · exact ⟨i, hi, by rw [hr, e, Bool.or_true]⟩
/-- a ring with a corner in another one that it does not meet has a smaller box -/
theorem in_less (h3 : 3 ≤ l.length) (m3 : 3 ≤ m.length) (hw : (box l).1 < (box l).2.2.1) (he : egm l m = false) (ha : anyN (fun k => ringHas l (at' m k) true) m.length = true) : arB (ppB true m) < arB (ppB true l) := by
  have apt : Apt m l := by
    intro i k hi hk
    cases e : gmt (at' m i) (nxp m i) (at' l k) (nxp l k) with
    | false => rfl
    | true =>
      rw [gmt_sym] at e
      have : egm l m = true := anyN_hit hi (anyN_hit hk e)
      rw [he] at this
      cases this
  rw [anyN_iff] at ha
  obtain ⟨k, hk, e⟩ := ha
  have hx : xrs l (at' m k) l.length = true := by
    rcases (has_t h3).1 e with g | g
    · rw [apt.off hk] at g; cases g
    · exact g
  have hall : ∀ q ∈ m, inB (box l) q = true ∧ q.2 < (box l).2.2.2 := by
    intro q hq
    obtain ⟨j, hj, rfl⟩ := at_of_mem hq
    have hxj : xrs l (at' m j) l.length = true := by rw [apt.side (by omega) j hj, ← apt.side (by omega) k hk]; exact hx
    refine ⟨by rw [← ppBq h3]; exact hasq_in ((has_t h3).2 (.inr hxj)), ?_⟩
    rcases Int.lt_or_le (at' m j).2 (box l).2.2.2 with g | g
    · exact g
    · rw [xrs_top fun r hr => by have := (box_spec l (by omega)).1 r hr; omega] at hxj
      cases hxj
  obtain ⟨-, ⟨p1, h1, e1⟩, ⟨p2, h2, e2⟩, ⟨p3, g3, e3⟩, ⟨p4, h4, e4⟩⟩ := box_spec m (by omega)
  have k1 := of_decide_eq_true (hall _ h1).1
  have k2 := of_decide_eq_true (hall _ h2).1
  have k3 := of_decide_eq_true (hall _ g3).1
  have k4 := (hall _ h4).2
  have hb := (box_spec m (by omega)).1 _ (mem_at (show 0 < m.length by omega))
  rw [ppBq h3, ppBq m3]
  unfold arB
  have n1 : (box m).2.2.1 - (box m).1 ≤ (box l).2.2.1 - (box l).1 := by omega
  have n2 : (box m).2.2.2 - (box m).2.1 < (box l).2.2.2 - (box l).2.1 := by omega
  have n3 : 0 ≤ (box m).2.2.2 - (box m).2.1 := by omega
  have s1 := Int.mul_le_mul_of_nonneg_right n1 n3
  have s2 := Int.mul_lt_mul_of_pos_left n2 (show 0 < (box l).2.2.1 - (box l).1 by omega)
  omega
theorem bmB_sym (a b : Int × Int × Int × Int) : bmB a b = bmB b a := by
  unfold bmB; exact decide_eq_decide.2 (by omega)
/-- **two rings meet whichever is asked** -/
theorem rirV_sym (h3 : 3 ≤ l.length) (hn : nSeg true l = l.length) (m3 : 3 ≤ m.length) (mn : nSeg true m = m.length) (hw : (box l).1 < (box l).2.2.1) (mw : (box m).1 < (box m).2.2.1) : rirV l m = rirV m l := by
  unfold rirV
  rw [bmB_sym]
  congr 1
  rcases Int.lt_trichotomy (arB (ppB true l)) (arB (ppB true m)) with g | g | g
  · rw [if_pos g, if_neg (by omega)]
  · rw [if_neg (by omega), if_neg (by omega), any_ris h3 hn m3 mn, any_ris m3 mn h3 hn, egm_sym (l := m)]
    cases he : egm l m with
    | true => rw [Bool.or_true, Bool.or_true]
    | false =>
      have a1 : anyN (fun k => ringHas l (at' m k) true) m.length = false := by
        cases e : anyN (fun k => ringHas l (at' m k) true) m.length with
        | false => rfl
        | true => have := in_less h3 m3 hw he e; omega
      have a2 : anyN (fun k => ringHas m (at' l k) true) l.length = false := by
        cases e : anyN (fun k => ringHas m (at' l k) true) l.length with
        | false => rfl
        | true => have := in_less m3 h3 mw (by rw [egm_sym]; exact he) e; omega
      rw [a1, a2]
  · rw [if_neg (by omega), if_pos g]
end
section
variable {a b c d a' b' c' d' : Int}
theorem crn_hasq (h1 : a < c) (h2 : b < d) (p : Int × Int) : ringHas (crn a b c d) p true = inB (a, b, c, d) p := by
  rw [(cls_like (l := crn a b c d) (by simp [crn]) (by simp [crn, at']; omega)).has]
  exact rect_has h1 h2 p
theorem crn_nseg (h1 : a < c) (h2 : b < d) : nSeg true (crn a b c d) = (crn a b c d).length := by
  unfold nSeg
  rw [if_pos rfl, if_neg (by simp [crn]), if_neg (by simp [crn]; omega)]
theorem crn_box (h1 : a < c) (h2 : b < d) : ppB true (crn a b c d) = (a, b, c, d) := by
  rw [(cls_like (l := crn a b c d) (by simp [crn]) (by simp [crn, at']; omega)).box]
  exact rl_box (Int.le_of_lt h1) (Int.le_of_lt h2)
theorem rr_meet (h1 : a < c) (h2 : b < d) (g1 : a' < c') (g2 : b' < d') (hb : a ≤ c' ∧ a' ≤ c ∧ b ≤ d' ∧ b' ≤ d) (har : ¬ (c - a) * (d - b) < (c' - a') * (d' - b')) :
    anyN (risV (crn a b c d) (crn a' b' c' d')) (nSeg true (crn a' b' c' d')) = true := by
  rw [any_ris (by simp [crn]) (crn_nseg h1 h2) (by simp [crn]) (crn_nseg g1 g2), Bool.or_eq_true]
  have hv : ∀ k, k < 4 → inB (a, b, c, d) (at' (crn a' b' c' d') k) = true → anyN (fun k => ringHas (crn a b c d) (at' (crn a' b' c' d') k) true) (crn a' b' c' d').length = true := fun k hk h =>
    anyN_hit (show k < 4 from hk) (by rw [crn_hasq h1 h2]; exact h)
  have he : ∀ i k p, i < 4 → k < 4 → gon (at' (crn a b c d) k) (nxp (crn a b c d) k) p = true → gon (at' (crn a' b' c' d') i) (nxp (crn a' b' c' d') i) p = true → egm (crn a b c d) (crn a' b' c' d') = true := fun i k p hi hk e1 e2 =>
    anyN_hit (show i < 4 from hi) (anyN_hit (show k < 4 from hk) (gmt_point e1 e2))
  have ver : ∀ x y1 y2 y : Int, (y1 ≤ y ∧ y ≤ y2) ∨ (y2 ≤ y ∧ y ≤ y1) → gon (x, y1) (x, y2) (x, y) = true := fun x y1 y2 y h => gon_iff.2 ⟨by simp only; omega, by unfold gsd; simp⟩
  have hor : ∀ y x1 x2 x : Int, (x1 ≤ x ∧ x ≤ x2) ∨ (x2 ≤ x ∧ x ≤ x1) → gon (x1, y) (x2, y) (x, y) = true := fun y x1 x2 x h => gon_iff.2 ⟨by simp only; omega, by unfold gsd; simp⟩
  by_cases X1 : a ≤ a' ∧ a' ≤ c
  · by_cases Y1 : b ≤ b' ∧ b' ≤ d
    · exact .inl (hv 0 (by omega) (decide_eq_true (show a ≤ a' ∧ a' ≤ c ∧ b ≤ b' ∧ b' ≤ d by omega)))
    · by_cases Y2 : b ≤ d' ∧ d' ≤ d
      · exact .inl (hv 3 (by omega) (decide_eq_true (show a ≤ a' ∧ a' ≤ c ∧ b ≤ d' ∧ d' ≤ d by omega)))
      · exact .inr (he 3 0 (a', b) (by omega) (by omega) (hor b a c a' (by omega)) (ver a' d' b' b (by omega)))
  · by_cases X2 : a ≤ c' ∧ c' ≤ c
    · by_cases Y1 : b ≤ b' ∧ b' ≤ d
      · exact .inl (hv 1 (by omega) (decide_eq_true (show a ≤ c' ∧ c' ≤ c ∧ b ≤ b' ∧ b' ≤ d by omega)))
      · by_cases Y2 : b ≤ d' ∧ d' ≤ d
        · exact .inl (hv 2 (by omega) (decide_eq_true (show a ≤ c' ∧ c' ≤ c ∧ b ≤ d' ∧ d' ≤ d by omega)))
        · exact .inr (he 1 0 (c', b) (by omega) (by omega) (hor b a c c' (by omega)) (ver c' b' d' b (by omega)))
    · by_cases Y1 : b ≤ b' ∧ b' ≤ d
      · exact .inr (he 0 3 (a, b') (by omega) (by omega) (ver a d b b' (by omega)) (hor b' a' c' a (by omega)))
      · by_cases Y2 : b ≤ d' ∧ d' ≤ d
        · exact .inr (he 2 3 (a, d') (by omega) (by omega) (ver a d b d' (by omega)) (hor d' c' a' a (by omega)))
        · exfalso
          apply har
          have s1 := Int.mul_lt_mul_of_pos_right (show c - a < c' - a' by omega) (show 0 < d - b by omega)
          have s2 := Int.mul_lt_mul_of_pos_left (show d - b < d' - b' by omega) (show 0 < c' - a' by omega)
          omega
/-- **two rectangles' rings meet just if their boxes do** -/
theorem rirV_crn (h1 : a < c) (h2 : b < d) (g1 : a' < c') (g2 : b' < d') : rirV (crn a b c d) (crn a' b' c' d') = bmB (a, b, c, d) (a', b', c', d') := by
  unfold rirV
  rw [crn_box h1 h2, crn_box g1 g2]
  cases hb : bmB (a, b, c, d) (a', b', c', d') with
  | false => rfl
  | true =>
    have hb := of_decide_eq_true hb
    simp only at hb
    rw [Bool.true_and]
    unfold arB
    simp only
    split
    · rename_i h
      exact rr_meet g1 g2 h1 h2 (by omega) (by omega)
    · rename_i h
      exact rr_meet h1 h2 g1 g2 (by omega) h
end
end Go.Proofs.YtlpibeloedfbdaaGreat
set_option linter.unusedSimpArgs false
set_option linter.unusedVariables false
/-! FnRectAsPoly: the plain law; isConvexVary (printed by gen/zr.py). -/
namespace Go.Proofs.YtlpibeloedfbdaaGreat
open Go.RowKit PF JR
section
variable {l m : List (Int × Int)} {G : List (List (Int × Int))} {a b c d J : Int}
theorem vc_nseg (h : VConv l) : nSeg true l = l.length := by
  obtain ⟨h3, way, h⟩ := h
  unfold nSeg
  rw [if_pos rfl, if_neg (by omega)]
  split
  · rename_i hc
    exfalso
    have e : at' l (l.length - 1) = at' l 0 := by
      unfold at'
      rw [List.getD_eq_getElem?_getD, List.getD_eq_getElem?_getD, hc]
    have k := (h (l.length - 1) (by omega)).1
    apply k
    have e1 : cyc l (l.length - 1) = at' l 0 := by unfold cyc; rw [Nat.mod_eq_of_lt (by omega), e]
    have e2 : cyc l (l.length - 1 + 1) = at' l 0 := by unfold cyc; rw [show l.length - 1 + 1 = l.length by omega, Nat.mod_self]
    rw [e1, e2]
    unfold sd side
    simp
  · rfl
theorem vc_wide (h : VConv l) : (box l).1 < (box l).2.2.1 := by
  obtain ⟨h3, way, h⟩ := h
  have hb := (box_spec l (by omega)).1
  have hm : ∀ i, cyc l i ∈ l := fun i => mem_at (Nat.mod_lt _ (by omega))
  rcases Int.lt_or_le (box l).1 (box l).2.2.1 with g | g
  · exact g
  · exfalso
    apply (h 0 (by omega)).1
    have k0 := hb _ (hm 0)
    have k1 := hb _ (hm (0 + 1))
    have k2 := hb _ (hm (0 + 2))
    unfold sd side
    rw [show (cyc l (0 + 1)).1 = (cyc l 0).1 by omega, show (cyc l (0 + 2)).1 = (cyc l 0).1 by omega]
    simp
theorem crn_conv (h1 : a < c) (h2 : b < d) : VConv (crn a b c d) := by
  have hp : 0 < (c - a) * (d - b) := Int.mul_pos (by omega) (by omega)
  refine ⟨by simp [crn], 1, fun i hi => ?_⟩
  have hs : sd (cyc (crn a b c d) i) (cyc (crn a b c d) (i + 1)) (cyc (crn a b c d) (i + 2)) = (c - a) * (d - b) := by
    match i, hi with
    | 0, _ => show side a b c b c d = _; unfold side; grind
    | 1, _ => show side c b c d a d = _; unfold side; grind
    | 2, _ => simp [sd, cyc, crn, at', side]; grind
    | 3, _ => simp [sd, cyc, crn, at', side]; grind
  rw [hs]
  exact ⟨by omega, by omega⟩
theorem crn_ok (h1 : a < c) (h2 : b < d) (p1 : Bn3 (a, b)) (p2 : Bn3 (c, d)) : ShOk 3 (crn a b c d) [] := by
  unfold Bn3 at p1 p2
  simp only at p1 p2
  refine ⟨fun p hp => ?_, by simp, by simp, .inr (.inr (.inr ⟨rfl, by simp [crn], by simp [crn]⟩))⟩
  simp only [crn, List.mem_cons, List.not_mem_nil, or_false] at hp
  unfold Bn3
  rcases hp with h | h | h | h <;> subst h <;> simp only <;> omega
theorem rl_boxq (h1 : a < c) (h2 : b < d) : box (rl a b c d) = (a, b, c, d) := by rw [← ppBq (by simp [rl]), rl_box (Int.le_of_lt h1) (Int.le_of_lt h2)]
theorem all_in (h1 : a < c) (h2 : b < d) (m : List (Int × Int)) : m.all (fun q => ringHas (crn a b c d) q true) = m.all (fun q => inB (a, b, c, d) q) := by
  congr 1
  funext q
  exact crn_hasq h1 h2 q
/-- **a rectangle and the polygon of its corners contain the same** -/
theorem hd_rp (h1 : a < c) (h2 : b < d) (hJ : ShOk J m G) (hc : CvOk J m G) : hdV 1 [(a, b), (c, d)] J m G = hdV 3 (crn a b c d) J m G := by
  rcases hc with rfl | rfl | ⟨rfl, rfl, -⟩
  · show decide (a ≤ (at' m 0).1 ∧ (at' m 0).1 ≤ c ∧ b ≤ (at' m 0).2 ∧ (at' m 0).2 ≤ d) = polHas (crn a b c d) [] (at' m 0)
    have : polHas (crn a b c d) [] (at' m 0) = ringHas (crn a b c d) (at' m 0) true := by unfold polHas; simp [orN]
    rw [this, crn_hasq h1 h2]
    rfl
  · obtain ⟨a', b', c', d', rfl, g1, g2⟩ : ∃ a b c d, m = [(a, b), (c, d)] ∧ a < c ∧ b < d := by
      rcases hJ.2.2.2 with ⟨h, -⟩ | ⟨-, h⟩ | ⟨h, -⟩ | ⟨h, -⟩
      · cases h
      · exact h
      · cases h
      · cases h
    show bcB (a, b, c, d) (a', b', c', d') = rchV (crn a b c d) true (rl a' b' c' d')
    rw [rchV_all (by simp [rl]) (ppBq (by simp [rl])), all_in h1 h2, ← bcB_all (by simp [rl]), rl_boxq g1 g2]
  · have m3 : 3 ≤ m.length := by
      rcases hJ.2.2.2 with ⟨h, -⟩ | ⟨h, -⟩ | ⟨h, -⟩ | ⟨-, h, -⟩
      · cases h
      · cases h
      · cases h
      · exact h
    show bcB (a, b, c, d) (ppB true m) = rchV (crn a b c d) true m
    rw [rchV_all (by omega) (ppBq m3), all_in h1 h2, ← bcB_all (by omega), ppBq m3]
theorem crn_like (h1 : a < c) (h2 : b < d) : Like (crn a b c d) (rl a b c d) := cls_like (l := crn a b c d) (by simp [crn]) (by simp [crn, at']; omega)
/-- **.. and meet the same** -/
theorem mt_rp (h1 : a < c) (h2 : b < d) (hJ : ShOk J m G) (hc : CvOk J m G) (hv : J = 3 → VConv m) : mtV 1 [(a, b), (c, d)] [] J m G = mtV 3 (crn a b c d) [] J m G := by
  have hlk := crn_like h1 h2
  rcases hc with rfl | rfl | ⟨rfl, rfl, -⟩
  · show decide (a ≤ (at' m 0).1 ∧ (at' m 0).1 ≤ c ∧ b ≤ (at' m 0).2 ∧ (at' m 0).2 ≤ d) = polHas (crn a b c d) [] (at' m 0)
    have : polHas (crn a b c d) [] (at' m 0) = ringHas (crn a b c d) (at' m 0) true := by unfold polHas; simp [orN]
    rw [this, crn_hasq h1 h2]
    rfl
  · obtain ⟨a', b', c', d', rfl, g1, g2⟩ : ∃ a b c d, m = [(a, b), (c, d)] ∧ a < c ∧ b < d := by
      rcases hJ.2.2.2 with ⟨h, -⟩ | ⟨-, h⟩ | ⟨h, -⟩ | ⟨h, -⟩
      · cases h
      · exact h
      · cases h
      · cases h
    have e : mtV 3 (crn a b c d) [] 1 [(a', b'), (c', d')] G = rirV (rl a' b' c' d') (crn a b c d) := by
      show polV (crn a b c d) [] (rl a' b' c' d') [] = _
      unfold polV
      simp [anyN]
    rw [e, rirV_like (crn_like g1 g2).symm (Like.refl _) (by simp [rl]) (by simp [crn]), rirV_crn g1 g2 h1 h2]
    show decide (a ≤ c' ∧ a' ≤ c ∧ b ≤ d' ∧ b' ≤ d) = bmB (a', b', c', d') (a, b, c, d)
    unfold bmB
    exact decide_eq_decide.2 (by simp only; omega)
  · have hvm := hv rfl
    have e1 : mtV 1 [(a, b), (c, d)] [] 3 m [] = rirV (rl a b c d) m := by
      show polV m [] (rl a b c d) [] = _
      unfold polV
      simp [anyN]
    have e2 : mtV 3 (crn a b c d) [] 3 m [] = rirV m (crn a b c d) := by
      show polV (crn a b c d) [] m [] = _
      unfold polV
      simp [anyN]
    have hcv := crn_conv h1 h2
    rw [e1, e2, rirV_like hlk.symm (Like.refl _) (by simp [rl]) hvm.1]
    exact rirV_sym hcv.1 (vc_nseg hcv) hvm.1 (vc_nseg hvm) (vc_wide hcv) (vc_wide hvm)
end
/-- what isConvexVary says */ -/
def IcP (K : Int) (l : List (Int × Int)) (H : List (List (Int × Int))) (w : World) (e : Ending) (w' : World) : Prop := ∃ b : Bool, e = .returned (.bool b) ∧ (b = true → VaryS K l H ∧ CvOk K l H ∧ (K = 3 → VConv l)) ∧ Below w.heap.size w w'
theorem IcP.mk {K : Int} {l : List (Int × Int)} {H : List (List (Int × Int))} {w w' : World} {e : Ending} (b : Bool) (h1 : e = .returned (.bool b)) (h2 : b = true → VaryS K l H ∧ CvOk K l H ∧ (K = 3 → VConv l)) (h3 : Below w.heap.size w w') : IcP K l H w e w' := by
  unfold IcP
  exact ⟨b, h1, h2, h3⟩
set_option maxRecDepth 100000 in
set_option maxHeartbeats 4000000 in
theorem isConvexVary2_c (K : Int) (l : List (Int × Int)) (H : List (List (Int × Int))) (hl : l.length ≤ 2147483647) (hH : ∀ h ∈ H, h.length ≤ 2147483647) (v vh : Value) (w : World) (hv : SlP w v l) (hh : SlH w vh H) :
    Calls Tryz.prog 6 #[.agg #[.int .i64 K, v, vh]] w fun e w' => IcP K l H w e w' := by
  have no : ∀ w', Below w.heap.size w w' → IcP K l H w (.returned (.bool false)) w' := fun w' hb => IcP.mk false rfl (fun h => by cases h) hb
  have st0 := (Blk.nil w).push rfl #[.int .i64 K, v, vh] 28
  have s0 := hv.below st0.hb
  have h0 := hh.below st0.hb
  obtain ⟨Av, cv, rfl⟩ : ∃ A c, v = .slice A l.length c := hv.len
  obtain ⟨Ah, ch, rfl⟩ : ∃ A c, vh = .slice A H.length c := by obtain ⟨A, c, h, -⟩ := hh; exact ⟨A, c, h⟩
  have c0 := st0.cell 0 rfl 0
  have c1 := st0.cell 0 rfl 1
  have c2 := st0.cell 0 rfl 2
  simp only [List.getElem?_toArray, List.getElem?_cons_zero, List.getElem?_cons_succ] at c0 c1 c2
  go_enter Tryz.func6, Tryz.ntmps6
  go_wp2_with (go_at_call 5; refine JR.StopM.out ?_)
  refine ⟨?_⟩
  refine (isVaryS_c K l H hl hH _ _ _ s0 h0).mono ?_
  rintro e w1 ⟨ok, rfl, hV, hb⟩
  have st1 := st0.ext hb
  have s1 := s0.below hb
  clear hb st0 c0 c1 c2 hv hh h0 s0
  have c0 := st1.cell 0 rfl 0
  have c1 := st1.cell 0 rfl 1
  have c2 := st1.cell 0 rfl 2
  simp only [List.getElem?_toArray, List.getElem?_cons_zero, List.getElem?_cons_succ] at c0 c1 c2
  cases ok with
  | false =>
    go_wp2
    go_ret
    exact no _ st1.hb
  | true =>
    have hVa := hV rfl
    clear hV
    by_cases k1 : K ≤ 1
    · have k1' := decide_eq_true k1
      go_wp2
      go_ret
      exact IcP.mk true rfl (fun _ => ⟨hVa, by
        rcases hVa.2.2.2.2 with ⟨h, -⟩ | ⟨h, -⟩ | ⟨h, -⟩ | ⟨h, -⟩
        · exact ⟨.inl h, fun h3 => by omega⟩
        · exact ⟨.inr (.inl h), fun h3 => by omega⟩
        · omega
        · omega⟩) st1.hb
    have k1' := decide_eq_false k1
    by_cases k3 : K = 3
    case neg =>
      have k3' : (K == 3) = false := beq_eq_false_iff_ne.2 k3
      go_wp2
      go_ret
      exact no _ st1.hb
    subst k3
    by_cases hn : H.length = 0
    case neg =>
      have hn' : ((H.length : Int) == 0) = false := beq_eq_false_iff_ne.2 (by omega)
      go_wp2
      go_ret
      exact no _ st1.hb
    have hn' : ((H.length : Int) == 0) = true := by rw [hn]; rfl
    have oka := shOk_of hVa
    go_wp2_with (go_at_call 11; refine JR.StopM.out ?_)
    refine ⟨?_⟩
    refine (varyOf_n l hl _ _ s1).mono ?_
    rintro e w2 ⟨v2, rfl, hs2, hb2⟩
    have st2 := st1.ext hb2
    clear hb2 st1 c0 c1 c2
    go_wp2_with (go_at_call 12; refine JR.StopM.out ?_)
    refine ⟨?_⟩
    refine (vconv_c l hl oka.1 v2 w2 hs2.p).mono ?_
    rintro e w3 ⟨b, rfl, hb3, hb⟩
    have st3 := st2.ext hb
    clear st2 hb
    cases b with
    | false =>
      go_wp2
      go_ret
      exact no _ st3.hb
    | true =>
      go_wp2
      go_ret
      exact IcP.mk true rfl (fun _ => ⟨hVa, .inr (.inr ⟨rfl, List.eq_nil_of_length_eq_zero hn, (hb3 (by first | rfl | trivial)).ppV⟩), fun _ => hb3 (by first | rfl | trivial)⟩) st3.hb
end Go.Proofs.YtlpibeloedfbdaaGreat
set_option linter.unusedSimpArgs false
set_option linter.unusedVariables false
/-! FnRectAsPoly: the walk (printed by gen/zz.py from zs.walk). -/
namespace Go.Proofs.YtlpibeloedfbdaaGreat
open Go Go.RowKit PF JR
theorem slp_ar2 {w : World} {b : Nat} {p q : Int × Int} {T : TypeId} (h : w.heap[b]? = some (.cells #[.int .i64 p.1, .int .i64 p.2, .int .i64 q.1, .int .i64 q.2] T (0, 0))) (c : Nat) : SlP w (.slice (some ⟨b, 0, none⟩) 2 c) [p, q] := by
  refine ⟨_, c, rfl, fun k x hx => ?_⟩
  have z0 := cellAt h 0
  have z1 := cellAt h 1
  have z2 := cellAt h 2
  have z3 := cellAt h 3
  simp only [List.getElem?_toArray, List.getElem?_cons_zero, List.getElem?_cons_succ] at z0 z1 z2 z3
  match k, hx with
  | 0, hx => simp at hx; subst hx; exact ⟨b, 0, rfl, z0, z1⟩
  | 1, hx => simp at hx; subst hx; exact ⟨b, 0, rfl, z2, z3⟩
theorem slp_ar4 {w : World} {b : Nat} {a0 b0 c0 d0 : Int} {T : TypeId} (h : w.heap[b]? = some (.cells #[.int .i64 a0, .int .i64 b0, .int .i64 c0, .int .i64 b0, .int .i64 c0, .int .i64 d0, .int .i64 a0, .int .i64 d0] T (0, 0))) (c : Nat) : SlP w (.slice (some ⟨b, 0, none⟩) 4 c) (crn a0 b0 c0 d0) := by
  refine ⟨_, c, rfl, fun k x hx => ?_⟩
  have e0 := cellAt h (k * 2)
  have e1 := cellAt h (k * 2 + 1)
  refine ⟨b, 0, rfl, ?_, ?_⟩
  · rw [Nat.zero_add, e0]
    match k, hx with
    | 0, hx => cases hx; rfl
    | 1, hx => cases hx; rfl
    | 2, hx => cases hx; rfl
    | 3, hx => cases hx; rfl
  · rw [Nat.zero_add, e1]
    match k, hx with
    | 0, hx => cases hx; rfl
    | 1, hx => cases hx; rfl
    | 2, hx => cases hx; rfl
    | 3, hx => cases hx; rfl
set_option maxRecDepth 100000 in
set_option maxHeartbeats 8000000 in
theorem rap_c (a b c d : Int) (J : Int) (m : List (Int × Int)) (G : List (List (Int × Int))) (hm0 : m.length ≤ 9223372036854775807) (hG0 : G.length ≤ 9223372036854775807) (hm1 : ∀ h ∈ G, h.length ≤ 9223372036854775807) (KD : Nat) (hKD : KD ≤ 255) (vb vhb : Value) (w : World) (hvb : SlP w vb m) (hvhb : SlH w vhb G) :
    Calls Tryz.prog 3 #[.agg #[.int .i64 a, .int .i64 b, .int .i64 c, .int .i64 d], .agg #[.int .i64 J, vb, vhb], .int .u8 KD] w fun e w' => e = .returned (.bool true) ∧ Below w.heap.size w w' := by
  obtain ⟨Ab, cb, rfl⟩ : ∃ A c, vb = .slice A m.length c := hvb.len
  obtain ⟨Ah, chh, rfl⟩ : ∃ A c, vhb = .slice A G.length c := by obtain ⟨A, c, h, -⟩ := hvhb; exact ⟨A, c, h⟩
  have st0 := ((Blk.nil w).push rfl #[.int .i64 a, .int .i64 b, .int .i64 c, .int .i64 d] 24).push (b := w.heap.size + 1) (by simp) #[.int .i64 J, .slice Ab m.length cb, .slice Ah G.length chh] 28
  have hfit := fun u h1 h2 => fits7_c J m G hm0 hG0 hm1 (.slice Ab m.length cb) (.slice Ah G.length chh) u h1 h2
  have hivr := fun v u h1 => isVaryS_c 1 [(a, b), (c, d)] [] (by simp) (by simp) v (.slice none 0 0) u h1 ⟨none, 0, rfl, fun k x hx => by simp at hx⟩
  have hicv := fun h1 h2 u g1 g2 => isConvexVary2_c J m G h1 h2 (.slice Ab m.length cb) (.slice Ah G.length chh) u g1 g2
  have hft : ∀ b, (decide (m.length ≤ 2147483647) && (decide (G.length ≤ 2147483647) && G.all fun h => decide (h.length ≤ 2147483647))) = b → b = true → m.length ≤ 2147483647 ∧ ∀ h ∈ G, h.length ≤ 2147483647 := by
    rintro _ rfl h
    simp only [Bool.and_eq_true, decide_eq_true_eq, List.all_eq_true] at h
    exact ⟨h.1, h.2.2⟩
  generalize hfe : (decide (m.length ≤ 2147483647) && (decide (G.length ≤ 2147483647) && G.all fun h => decide (h.length ≤ 2147483647))) = fit at *
  have hft := hft fit rfl
  generalize hnm : m.length = nm at *
  generalize hng : G.length = ng at *
  have z0 := st0.cell 0 rfl 0
  have z1 := st0.cell 0 rfl 1
  have z2 := st0.cell 0 rfl 2
  simp only [List.getElem?_toArray, List.getElem?_cons_zero, List.getElem?_cons_succ] at z0 z1 z2
  go_enter Tryz.func3, Tryz.ntmps3
  go_wp2_with (go_at_call 4; refine JR.StopM.out ?_)
  refine ⟨?_⟩
  refine (hfit _ (hvb.below st0.hb) (hvhb.below st0.hb)).mono ?_
  rintro e w1 ⟨rfl, hb⟩
  have st1 := st0.ext hb
  clear hb st0 hfit z0 z1 z2 hfe
  cases fit with
  | false =>
    go_wp2
    go_ret
    exact ⟨rfl, st1.hb⟩
  | true =>
  obtain ⟨hmle, hGle⟩ := hft rfl
  have hic := fun u g1 g2 => hicv hmle hGle u g1 g2
  have st2 := st1.push (b := w1.heap.size) rfl #[.int .i64 1, .slice (some ⟨w.heap.size, 0, none⟩) 2 2, .slice none 0 0] 28
  have hsl := slp_ar2 (p := (a, b)) (q := (c, d)) (st2.known 2 _ rfl) 2
  clear hft hicv
  go_upto_region 4 with (fail)
  clear st1
  generalize w1.alloc _ = w2 at *
  generalize w1.heap.size = sb at *
  have z0 := st2.cell 0 rfl 0
  have z1 := st2.cell 0 rfl 1
  have z2 := st2.cell 0 rfl 2
  simp only [List.getElem?_toArray, List.getElem?_cons_zero, List.getElem?_cons_succ] at z0 z1 z2
  go_wp2_with (go_at_call 5; refine JR.StopM.out ?_)
  refine ⟨?_⟩
  refine (hivr _ _ hsl).mono ?_
  rintro e w3 ⟨ok, rfl, hV, hb⟩
  have st3 := st2.ext hb
  clear hb st2 hivr z0 z1 z2 hsl
  cases ok with
  | false =>
    go_wp2_with (go_at_call 7; refine JR.StopM.out ?_)
    refine ⟨?_⟩
    refine (awake_c _).mono ?_
    rintro e wA ⟨rfl, hbA⟩
    have stA := st3.ext hbA
    go_wp2
    go_ret
    exact ⟨rfl, stA.hb⟩
  | true =>
  have oka := shOk_of (hV (by first | rfl | trivial))
  clear hV
  have z0 := st3.cell 1 rfl 0
  have z1 := st3.cell 1 rfl 1
  have z2 := st3.cell 1 rfl 2
  simp only [List.getElem?_toArray, List.getElem?_cons_zero, List.getElem?_cons_succ] at z0 z1 z2
  go_wp2_with (go_at_call 6; refine JR.StopM.out ?_)
  refine ⟨?_⟩
  refine (hic _ (hvb.below st3.hb) (hvhb.below st3.hb)).mono ?_
  rintro e w4 ⟨ok, rfl, hV, hb⟩
  have st4 := st3.ext hb
  clear hb st3 hic z0 z1 z2
  cases ok with
  | false =>
    go_wp2_with (go_at_call 7; refine JR.StopM.out ?_)
    refine ⟨?_⟩
    refine (awake_c _).mono ?_
    rintro e wA ⟨rfl, hbA⟩
    have stA := st4.ext hbA
    go_wp2
    go_ret
    exact ⟨rfl, stA.hb⟩
  | true =>
  obtain ⟨hVb, hcvb, hvc⟩ := hV (by first | rfl | trivial)
  clear hV
  have okb := shOk_of hVb
  have hab : a < c ∧ b < d := by
    rcases oka.2.2.2 with ⟨h, -⟩ | ⟨-, x0, x1, x2, x3, he, g1, g2⟩ | ⟨h, -⟩ | ⟨h, -⟩
    · cases h
    · simp only [List.cons.injEq, Prod.mk.injEq, and_true] at he
      omega
    · cases h
    · cases h
  have okc := crn_ok hab.1 hab.2 (oka.1 _ (by simp)) (oka.1 _ (by simp))
  have e1 := hd_rp hab.1 hab.2 okb hcvb
  have e2 := mt_rp hab.1 hab.2 okb hcvb hvc
  have hcvc : CvOk 3 (crn a b c d) [] := .inr (.inr ⟨rfl, rfl, (crn_conv hab.1 hab.2).ppV⟩)
  obtain ⟨ki, hki, hki2⟩ : ∃ ki : Nat, KD % 3 = ki ∧ ki ≤ 2 := ⟨KD % 3, rfl, by omega⟩
  have hrem : (KD : Int).tmod 3 = (ki : Int) := by rw [Int.tmod_eq_emod_of_nonneg (by omega)]; omega
  have hw8 : Go.IntKind.u8.wrap ((ki : Nat) : Int) = ((ki : Nat) : Int) := by unfold Go.IntKind.wrap; simp [Go.IntKind.bits, Go.IntKind.signed]; omega
  have hw6 : Go.IntKind.i64.wrap ((ki : Nat) : Int) = ((ki : Nat) : Int) := by unfold Go.IntKind.wrap; simp [Go.IntKind.bits, Go.IntKind.signed]; omega
  have hA1 := fun va u g1 g2 g3 => ask_cv (X := ki) hki2 1 [(a, b), (c, d)] [] oka (.inr (.inl rfl)) J m G okb va (.slice none 0 0) (.slice Ab nm cb) (.slice Ah ng chh) u g1 ⟨none, 0, rfl, fun k x hx => by simp at hx⟩ g2 g3
  have hA2 := fun va u g1 g2 g3 => ask_cv (X := ki) hki2 3 (crn a b c d) [] okc hcvc J m G okb va (.slice none 0 0) (.slice Ab nm cb) (.slice Ah ng chh) u g1 ⟨none, 0, rfl, fun k x hx => by simp at hx⟩ g2 g3
  rw [e1, e2] at hA1
  generalize hdV 3 (crn a b c d) J m G = qh at *
  generalize mtV 3 (crn a b c d) [] J m G = qm at *
  have hqh : (qh == qh) = true := by cases qh <;> rfl
  have hqm : (qm == qm) = true := by cases qm <;> rfl
  clear e1 e2 oka okb okc hcvc hcvb hVb hvc hab hki
  have y0 := st4.cell 2 rfl 0
  have y1 := st4.cell 2 rfl 1
  have y2 := st4.cell 2 rfl 2
  have y3 := st4.cell 2 rfl 3
  simp only [List.getElem?_toArray, List.getElem?_cons_zero, List.getElem?_cons_succ] at y0 y1 y2 y3
  have st5 := (st4.push (b := w4.heap.size) rfl #[.int .i64 a, .int .i64 b, .int .i64 c, .int .i64 b, .int .i64 c, .int .i64 d, .int .i64 a, .int .i64 d] 23).push (b := w4.heap.size + 1) (by simp) #[.int .i64 3, .slice (some ⟨w4.heap.size, 0, none⟩) 4 4, .slice none 0 0] 28
  go_upto_region 7 with (fail)
  clear st4 y0 y1 y2 y3
  generalize (w4.alloc _).alloc _ = w5 at *
  generalize w4.heap.size = pb at *
  have hs4 := slp_ar4 (st5.known 1 _ rfl) 4
  have hs2 := slp_ar2 (p := (a, b)) (q := (c, d)) (st5.known 4 _ rfl) 2
  have x0 := st5.cell 2 rfl 0
  have x1 := st5.cell 2 rfl 1
  have x2 := st5.cell 2 rfl 2
  simp only [List.getElem?_toArray, List.getElem?_cons_zero, List.getElem?_cons_succ] at x0 x1 x2
  have z0 := st5.cell 3 rfl 0
  have z1 := st5.cell 3 rfl 1
  have z2 := st5.cell 3 rfl 2
  simp only [List.getElem?_toArray, List.getElem?_cons_zero, List.getElem?_cons_succ] at z0 z1 z2
  go_wp2_with (go_at_call 8; refine JR.StopM.out ?_)
  refine ⟨?_⟩
  refine (hA1 _ _ hs2 (hvb.below st5.hb) (hvhb.below st5.hb)).mono ?_
  rintro e w6 ⟨rfl, hb⟩
  have st6 := st5.ext hb
  have hs4 := hs4.below hb
  clear hb st5 hA1 hs2 x0 x1 x2 z0 z1 z2
  have x0 := st6.cell 0 rfl 0
  have x1 := st6.cell 0 rfl 1
  have x2 := st6.cell 0 rfl 2
  simp only [List.getElem?_toArray, List.getElem?_cons_zero, List.getElem?_cons_succ] at x0 x1 x2
  have z0 := st6.cell 3 rfl 0
  have z1 := st6.cell 3 rfl 1
  have z2 := st6.cell 3 rfl 2
  simp only [List.getElem?_toArray, List.getElem?_cons_zero, List.getElem?_cons_succ] at z0 z1 z2
  go_wp2_with (go_at_call 8; refine JR.StopM.out ?_)
  refine ⟨?_⟩
  refine (hA2 _ _ hs4 (hvb.below st6.hb) (hvhb.below st6.hb)).mono ?_
  rintro e w7 ⟨rfl, hb⟩
  have st7 := st6.ext hb
  clear hb st6 hA2 hs4 x0 x1 x2 z0 z1 z2
  go_wp2_with (go_at_call 7; refine JR.StopM.out ?_)
  refine ⟨?_⟩
  refine (awake_c _).mono ?_
  rintro e wA ⟨rfl, hbA⟩
  have stA := st7.ext hbA
  go_wp2
  go_ret
  exact ⟨rfl, stA.hb⟩
end Go.Proofs.YtlpibeloedfbdaaGreat
