import Derived.Test.YtbfanhdofopnnaaGreatQG
import Derived.Test.YtbfanhdofopnnaaGreatPt
set_option linter.unusedSimpArgs false
set_option linter.unusedVariables false
/-! A point in a ring: turned. -/
namespace PF
/-- a product's sign -/
def Sgn (a b P : Int) : Prop := ((0 < a ∧ 0 < b ∧ 0 < P) ∨ (0 < a ∧ b ≤ 0 ∧ P ≤ 0) ∨ (a ≤ 0 ∧ 0 < b ∧ P ≤ 0) ∨ (a ≤ 0 ∧ b ≤ 0 ∧ 0 ≤ P)) ∧ (P ≠ 0 ∨ a = 0 ∨ b = 0)
theorem mul_sgnQ (a b : Int) : Sgn a b (a * b) := by
  refine ⟨?_, ?_⟩
  · rcases Int.lt_or_le 0 a with ha | ha <;> rcases Int.lt_or_le 0 b with hb | hb
    · exact .inl ⟨ha, hb, Int.mul_pos ha hb⟩
    · exact .inr (.inl ⟨ha, hb, mul_pn (by omega) hb⟩)
    · exact .inr (.inr (.inl ⟨ha, hb, mul_np ha (by omega)⟩))
    · exact .inr (.inr (.inr ⟨ha, hb, mul_nn ha hb⟩))
  · rcases Decidable.em (a * b = 0) with h | h
    · exact .inr (Int.mul_eq_zero.1 h)
    · exact .inl h
theorem bxor4 {A B C D : Prop} [Decidable A] [Decidable B] [Decidable C] [Decidable D] (h : (A ∧ B ∧ C ∧ D) ∨ (A ∧ B ∧ ¬ C ∧ ¬ D) ∨ (A ∧ ¬ B ∧ C ∧ ¬ D) ∨ (A ∧ ¬ B ∧ ¬ C ∧ D) ∨ (¬ A ∧ ¬ B ∧ C ∧ D) ∨ (¬ A ∧ ¬ B ∧ ¬ C ∧ ¬ D) ∨ (¬ A ∧ B ∧ C ∧ ¬ D) ∨ (¬ A ∧ B ∧ ¬ C ∧ D)) : decide A = (decide B != (decide C != decide D)) := by
  rcases h with ⟨a, b, c, d⟩ | ⟨a, b, c, d⟩ | ⟨a, b, c, d⟩ | ⟨a, b, c, d⟩ | ⟨a, b, c, d⟩ | ⟨a, b, c, d⟩ | ⟨a, b, c, d⟩ | ⟨a, b, c, d⟩ <;> simp [a, b, c, d]
/-- the rays to the right and downward -/
theorem quad_rot {a b c d P Q : Int} (hP : Sgn a d P) (hQ : Sgn b c Q)
    (ho : ¬ (P = Q ∧ ((a ≤ 0 ∧ 0 ≤ c) ∨ (c ≤ 0 ∧ 0 ≤ a)) ∧ ((b ≤ 0 ∧ 0 ≤ d) ∨ (d ≤ 0 ∧ 0 ≤ b)))) :
    decide ((a ≤ 0 ∧ 0 < c ∧ Q < P) ∨ (c ≤ 0 ∧ 0 < a ∧ P < Q)) = (decide ((b ≤ 0 ∧ 0 < d ∧ Q < P) ∨ (d ≤ 0 ∧ 0 < b ∧ P < Q)) != (decide (0 < a ∧ b ≤ 0) != decide (0 < c ∧ d ≤ 0))) := by
  apply bxor4
  obtain ⟨hP, hP0⟩ := hP
  obtain ⟨hQ, hQ0⟩ := hQ
  rcases hP with ⟨a1, a2, a3⟩ | ⟨a1, a2, a3⟩ | ⟨a1, a2, a3⟩ | ⟨a1, a2, a3⟩ <;> rcases hQ with ⟨b1, b2, b3⟩ | ⟨b1, b2, b3⟩ | ⟨b1, b2, b3⟩ | ⟨b1, b2, b3⟩ <;>
    (rcases Int.lt_trichotomy P Q with hq | hq | hq <;> first
      | (exfalso; omega)
      | exact .inl (by omega)
      | exact .inr (.inl (by omega))
      | exact .inr (.inr (.inl (by omega)))
      | exact .inr (.inr (.inr (.inl (by omega))))
      | exact .inr (.inr (.inr (.inr (.inl (by omega)))))
      | exact .inr (.inr (.inr (.inr (.inr (.inl (by omega))))))
      | exact .inr (.inr (.inr (.inr (.inr (.inr (.inl (by omega)))))))
      | exact .inr (.inr (.inr (.inr (.inr (.inr (.inr (by omega))))))))

/-- the rays to the right and to the left -/
theorem quad_neg {a b c d P Q : Int} (hP : Sgn a d P) (hQ : Sgn b c Q)
    (ho : ¬ (P = Q ∧ ((a ≤ 0 ∧ 0 ≤ c) ∨ (c ≤ 0 ∧ 0 ≤ a)) ∧ ((b ≤ 0 ∧ 0 ≤ d) ∨ (d ≤ 0 ∧ 0 ≤ b)))) :
    decide ((b ≤ 0 ∧ 0 < d ∧ P < Q) ∨ (d ≤ 0 ∧ 0 < b ∧ Q < P)) = (decide ((b ≤ 0 ∧ 0 < d ∧ Q < P) ∨ (d ≤ 0 ∧ 0 < b ∧ P < Q)) != (decide (b ≤ 0) != decide (d ≤ 0))) := by
  apply bxor4
  obtain ⟨hP, hP0⟩ := hP
  obtain ⟨hQ, hQ0⟩ := hQ
  rcases hP with ⟨a1, a2, a3⟩ | ⟨a1, a2, a3⟩ | ⟨a1, a2, a3⟩ | ⟨a1, a2, a3⟩ <;> rcases hQ with ⟨b1, b2, b3⟩ | ⟨b1, b2, b3⟩ | ⟨b1, b2, b3⟩ | ⟨b1, b2, b3⟩ <;>
    (rcases Int.lt_trichotomy P Q with hq | hq | hq <;> first
      | (exfalso; omega)
      | exact .inl (by omega)
      | exact .inr (.inl (by omega))
      | exact .inr (.inr (.inl (by omega)))
      | exact .inr (.inr (.inr (.inl (by omega))))
      | exact .inr (.inr (.inr (.inr (.inl (by omega)))))
      | exact .inr (.inr (.inr (.inr (.inr (.inl (by omega))))))
      | exact .inr (.inr (.inr (.inr (.inr (.inr (.inl (by omega)))))))
      | exact .inr (.inr (.inr (.inr (.inr (.inr (.inr (by omega))))))))
section
variable {Ax Ay Bx By Px Py a b c d : Int}
theorem cross_norm (ha : Ax - Px = a) (hb : Ay - Py = b) (hc : Bx - Px = c) (hd : By - Py = d) : (By - Ay) * (Px - Ax) = b * a - a * d ∧ (Py - Ay) * (Bx - Ax) = b * a - b * c := by
  constructor
  · rw [show By - Ay = d - b by omega, show Px - Ax = -a by omega, Int.sub_mul, Int.mul_neg, Int.mul_neg, Int.mul_comm d a]; omega
  · rw [show Py - Ay = -b by omega, show Bx - Ax = c - a by omega, Int.mul_sub, Int.neg_mul, Int.neg_mul]; omega
theorem rcIn_norm (ha : Ax - Px = a) (hb : Ay - Py = b) (hc : Bx - Px = c) (hd : By - Py = d) : rcIn Ax Ay Bx By Px Py = decide ((b ≤ 0 ∧ 0 < d ∧ b * c < a * d) ∨ (d ≤ 0 ∧ 0 < b ∧ a * d < b * c)) := by
  obtain ⟨e1, e2⟩ := cross_norm ha hb hc hd
  rw [rcIn, e1, e2]
  apply decide_eq_decide.2
  omega
theorem rcOn_norm (ha : Ax - Px = a) (hb : Ay - Py = b) (hc : Bx - Px = c) (hd : By - Py = d) : rcOn Ax Ay Bx By Px Py = decide (a * d = b * c ∧ ((a ≤ 0 ∧ 0 ≤ c) ∨ (c ≤ 0 ∧ 0 ≤ a)) ∧ ((b ≤ 0 ∧ 0 ≤ d) ∨ (d ≤ 0 ∧ 0 ≤ b))) := by
  obtain ⟨e1, e2⟩ := cross_norm ha hb hc hd
  rw [rcOn, Int.mul_comm (Px - Ax), e1, e2]
  apply decide_eq_decide.2
  omega
theorem rcIn_rot (h : rcOn Ax Ay Bx By Px Py = false) : rcIn (-Ay) Ax (-By) Bx (-Py) Px = (rcIn Ax Ay Bx By Px Py != (decide (0 < Ax - Px ∧ Ay - Py ≤ 0) != decide (0 < Bx - Px ∧ By - Py ≤ 0))) := by
  obtain ⟨a, ha⟩ : ∃ a, Ax - Px = a := ⟨_, rfl⟩
  obtain ⟨b, hb⟩ : ∃ b, Ay - Py = b := ⟨_, rfl⟩
  obtain ⟨c, hc⟩ : ∃ c, Bx - Px = c := ⟨_, rfl⟩
  obtain ⟨d, hd⟩ : ∃ d, By - Py = d := ⟨_, rfl⟩
  rw [rcOn_norm ha hb hc hd] at h
  rw [rcIn_norm (a := -b) (b := a) (c := -d) (d := c) (by omega) ha (by omega) hc, rcIn_norm ha hb hc hd, ha, hb, hc, hd, ← quad_rot (mul_sgnQ a d) (mul_sgnQ b c) (of_decide_eq_false h)]
  rw [Int.mul_neg, Int.neg_mul]
  apply decide_eq_decide.2
  omega
theorem rcIn_neg (h : rcOn Ax Ay Bx By Px Py = false) : rcIn (-Ax) Ay (-Bx) By (-Px) Py = (rcIn Ax Ay Bx By Px Py != (decide (Ay - Py ≤ 0) != decide (By - Py ≤ 0))) := by
  obtain ⟨a, ha⟩ : ∃ a, Ax - Px = a := ⟨_, rfl⟩
  obtain ⟨b, hb⟩ : ∃ b, Ay - Py = b := ⟨_, rfl⟩
  obtain ⟨c, hc⟩ : ∃ c, Bx - Px = c := ⟨_, rfl⟩
  obtain ⟨d, hd⟩ : ∃ d, By - Py = d := ⟨_, rfl⟩
  rw [rcOn_norm ha hb hc hd] at h
  rw [rcIn_norm (a := -a) (b := b) (c := -c) (d := d) (by omega) hb (by omega) hd, rcIn_norm ha hb hc hd, hb, hd, ← quad_neg (mul_sgnQ a d) (mul_sgnQ b c) (of_decide_eq_false h)]
  rw [Int.mul_neg, Int.neg_mul]
  apply decide_eq_decide.2
  omega
end
theorem at_map (f : Int × Int → Int × Int) {l : List (Int × Int)} {k : Nat} (h : k < l.length) : at' (l.map f) k = f (at' l k) := by
  unfold at'
  rw [List.getD_eq_getElem?_getD, List.getD_eq_getElem?_getD, List.getElem?_map, List.getElem?_eq_getElem h]
  rfl
theorem nxp_map (f : Int × Int → Int × Int) {l : List (Int × Int)} {k : Nat} (h : k < l.length) : nxp (l.map f) k = f (nxp l k) := by
  unfold nxp
  rw [List.length_map]
  split
  · exact at_map f (by omega)
  · exact at_map f (by omega)
/-- what is told of each edge by its two ends tells nothing of the ring -/
theorem tele {l m : List (Int × Int)} {p p' : Int × Int} (q : Int × Int → Bool) (h0 : 0 < l.length) (h : ∀ k, k < l.length → rin m p' k = (rin l p k != (q (at' l k) != q (nxp l k)))) : xrs m p' l.length = xrs l p l.length := by
  have key : ∀ k, k < l.length → xrs m p' k = (xrs l p k != (q (at' l 0) != q (at' l k))) := by
    intro k
    induction k with
    | zero => intro _; simp [xrs]
    | succ k ih =>
      intro hk
      rw [xrs, xrs, ih (by omega), h k (by omega), nxp_mid hk]
      cases q (at' l 0) <;> cases q (at' l k) <;> cases q (at' l (k + 1)) <;> cases xrs l p k <;> cases rin l p k <;> rfl
  obtain ⟨n, hn⟩ : ∃ n, l.length = n + 1 := ⟨l.length - 1, by omega⟩
  rw [hn, xrs, xrs, key n (by omega), h n (by omega), nxp_end hn.symm]
  cases q (at' l 0) <;> cases q (at' l n) <;> cases xrs l p n <;> cases rin l p n <;> rfl
theorem aon_ron {l : List (Int × Int)} {p : Int × Int} : ∀ n, aon l p n = false → ∀ k, k < n → ron l p k = false := by
  intro n
  induction n with
  | zero => intro _ k hk; omega
  | succ n ih =>
    intro h k hk
    rw [aon, Bool.or_eq_false_iff] at h
    rcases Nat.lt_or_ge k n with h1 | h1
    · exact ih h.1 k h1
    · obtain rfl : k = n := by omega
      exact h.2
/-- a map of the plane that keeps which rings hold which points -/
def Good (f : Int × Int → Int × Int) : Prop := ∀ (l : List (Int × Int)) (p : Int × Int), 0 < l.length → aon (l.map f) (f p) l.length = aon l p l.length ∧ (aon l p l.length = false → xrs (l.map f) (f p) l.length = xrs l p l.length)
theorem Good.comp {f g : Int × Int → Int × Int} (hf : Good f) (hg : Good g) : Good (fun p => g (f p)) := by
  intro l p h0
  obtain ⟨a1, a2⟩ := hf l p h0
  obtain ⟨b1, b2⟩ := hg (l.map f) (f p) (by simpa using h0)
  rw [List.length_map, List.map_map] at b1 b2
  exact ⟨b1.trans a1, fun h => (b2 (a1.trans h)).trans (a2 h)⟩
theorem aon_same {l m : List (Int × Int)} {p p' : Int × Int} : ∀ n, (∀ k, k < n → ron m p' k = ron l p k) → aon m p' n = aon l p n := by
  intro n
  induction n with
  | zero => intro _; rfl
  | succ n ih => intro h; rw [aon, aon, ih (fun k hk => h k (by omega)), h n (by omega)]
theorem Good.id : Good (fun p => p) := fun l p _ => by simp
theorem good_of {f : Int × Int → Int × Int} (q : Int × Int → Int × Int → Bool) (hon : ∀ a b p, rcOn (f a).1 (f a).2 (f b).1 (f b).2 (f p).1 (f p).2 = rcOn a.1 a.2 b.1 b.2 p.1 p.2)
    (hin : ∀ a b p, rcOn a.1 a.2 b.1 b.2 p.1 p.2 = false → rcIn (f a).1 (f a).2 (f b).1 (f b).2 (f p).1 (f p).2 = (rcIn a.1 a.2 b.1 b.2 p.1 p.2 != (q p a != q p b))) : Good f := by
  intro l p h0
  refine ⟨aon_same _ fun k hk => ?_, fun h => tele (q p) h0 fun k hk => ?_⟩
  · unfold ron
    rw [at_map f hk, nxp_map f hk]
    exact hon _ _ _
  · have := aon_ron _ h k hk
    unfold ron at this
    unfold rin
    rw [at_map f hk, nxp_map f hk]
    exact hin _ _ _ this
theorem good_rot : Good (fun p => (-p.2, p.1)) := good_of (fun p a => decide (0 < a.1 - p.1 ∧ a.2 - p.2 ≤ 0)) (fun _ _ _ => rcOn_rot) (fun _ _ _ h => rcIn_rot h)
theorem good_neg : Good (fun p => (-p.1, p.2)) := good_of (fun p a => decide (a.2 - p.2 ≤ 0)) (fun _ _ _ => rcOn_neg) (fun _ _ _ h => rcIn_neg h)
theorem good_sm (S DX DY : Int) (hS : 0 < S) : Good (fun p => (p.1 * S + DX, p.2 * S + DY)) := good_of (fun _ _ => false) (fun _ _ _ => rcOn_sm S DX DY hS) (fun a b p _ => by
  show rcIn (a.1 * S + DX) (a.2 * S + DY) (b.1 * S + DX) (b.2 * S + DY) (p.1 * S + DX) (p.2 * S + DY) = _
  rw [rcIn_sm S DX DY hS]; simp)
theorem good_rotN : ∀ n, Good (rotN n) := by
  intro n
  induction n with
  | zero => exact Good.id
  | succ n ih => exact good_rot.comp ih
/-- **which rings hold which points does not change when both are turned** -/
theorem good_tpt (K S DX DY : Int) (hS : 0 < S) : Good (tpt K S DX DY) := by
  by_cases h : 4 ≤ K
  · have := (good_neg.comp (good_rotN (K % 4).toNat)).comp (good_sm S DX DY hS)
    have e : (fun p => tpt K S DX DY p) = fun p => ((rotN (K % 4).toNat (-p.1, p.2)).1 * S + DX, (rotN (K % 4).toNat (-p.1, p.2)).2 * S + DY) := by
      funext p; simp [tpt, h]
    show Good (fun p => tpt K S DX DY p)
    rw [e]
    exact this
  · have := (good_rotN (K % 4).toNat).comp (good_sm S DX DY hS)
    have e : (fun p => tpt K S DX DY p) = fun p => ((rotN (K % 4).toNat p).1 * S + DX, (rotN (K % 4).toNat p).2 * S + DY) := by
      funext p; simp [tpt, h]
    show Good (fun p => tpt K S DX DY p)
    rw [e]
    exact this
end PF
