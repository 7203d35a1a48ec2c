import Derived.Test.YtdlcckkphjpeoaaGreatQC
import Derived.Test.YtdlcckkphjpeoaaGreatPt
import Derived.Test.YtdlcckkphjpeoaaGreatPts
import Derived.Test.YtdlcckkphjpeoaaGreatPp
import Derived.Test.YtdlcckkphjpeoaaGreatJd
import Derived.Test.YtdlcckkphjpeoaaGreatVr
set_option linter.unusedSimpArgs false
set_option linter.unusedVariables false
/-! A point in a ring: turned. -/
namespace PF
/-- a product's sign -/
def Sgn (a b P : Int) : Prop := ((0 < a ∧ 0 < b ∧ 0 < P) ∨ (0 < a ∧ b ≤ 0 ∧ P ≤ 0) ∨ (a ≤ 0 ∧ 0 < b ∧ P ≤ 0) ∨ (a ≤ 0 ∧ b ≤ 0 ∧ 0 ≤ P)) ∧ (P ≠ 0 ∨ a = 0 ∨ b = 0)
theorem mul_sgn (a b : Int) : Sgn a b (a * b) := by
  refine ⟨?_, ?_⟩
  · rcases Int.lt_or_le 0 a with ha | ha <;> rcases Int.lt_or_le 0 b with hb | hb
    · exact .inl ⟨ha, hb, Int.mul_pos ha hb⟩
    · exact .inr (.inl ⟨ha, hb, mul_pn (by omega) hb⟩)
    · exact .inr (.inr (.inl ⟨ha, hb, mul_np ha (by omega)⟩))
    · exact .inr (.inr (.inr ⟨ha, hb, mul_nn ha hb⟩))
  · rcases Decidable.em (a * b = 0) with h | h
    · exact .inr (Int.mul_eq_zero.1 h)
    · exact .inl h
theorem bxor4 {A B C D : Prop} [Decidable A] [Decidable B] [Decidable C] [Decidable D] (h : (A ∧ B ∧ C ∧ D) ∨ (A ∧ B ∧ ¬ C ∧ ¬ D) ∨ (A ∧ ¬ B ∧ C ∧ ¬ D) ∨ (A ∧ ¬ B ∧ ¬ C ∧ D) ∨ (¬ A ∧ ¬ B ∧ C ∧ D) ∨ (¬ A ∧ ¬ B ∧ ¬ C ∧ ¬ D) ∨ (¬ A ∧ B ∧ C ∧ ¬ D) ∨ (¬ A ∧ B ∧ ¬ C ∧ D)) : decide A = (decide B != (decide C != decide D)) := by
  rcases h with ⟨a, b, c, d⟩ | ⟨a, b, c, d⟩ | ⟨a, b, c, d⟩ | ⟨a, b, c, d⟩ | ⟨a, b, c, d⟩ | ⟨a, b, c, d⟩ | ⟨a, b, c, d⟩ | ⟨a, b, c, d⟩ <;> simp [a, b, c, d]
/-- the rays to the right and downward -/
theorem quad_rot {a b c d P Q : Int} (hP : Sgn a d P) (hQ : Sgn b c Q)
    (ho : ¬ (P = Q ∧ ((a ≤ 0 ∧ 0 ≤ c) ∨ (c ≤ 0 ∧ 0 ≤ a)) ∧ ((b ≤ 0 ∧ 0 ≤ d) ∨ (d ≤ 0 ∧ 0 ≤ b)))) :
    decide ((a ≤ 0 ∧ 0 < c ∧ Q < P) ∨ (c ≤ 0 ∧ 0 < a ∧ P < Q)) = (decide ((b ≤ 0 ∧ 0 < d ∧ Q < P) ∨ (d ≤ 0 ∧ 0 < b ∧ P < Q)) != (decide (0 < a ∧ b ≤ 0) != decide (0 < c ∧ d ≤ 0))) := by
  apply bxor4
  obtain ⟨hP, hP0⟩ := hP
  obtain ⟨hQ, hQ0⟩ := hQ
  rcases hP with ⟨a1, a2, a3⟩ | ⟨a1, a2, a3⟩ | ⟨a1, a2, a3⟩ | ⟨a1, a2, a3⟩ <;> rcases hQ with ⟨b1, b2, b3⟩ | ⟨b1, b2, b3⟩ | ⟨b1, b2, b3⟩ | ⟨b1, b2, b3⟩ <;>
    (rcases Int.lt_trichotomy P Q with hq | hq | hq <;> first
      | (exfalso; omega)
      | exact .inl (by omega)
      | exact .inr (.inl (by omega))
      | exact .inr (.inr (.inl (by omega)))
      | exact .inr (.inr (.inr (.inl (by omega))))
      | exact .inr (.inr (.inr (.inr (.inl (by omega)))))
      | exact .inr (.inr (.inr (.inr (.inr (.inl (by omega))))))
      | exact .inr (.inr (.inr (.inr (.inr (.inr (.inl (by omega)))))))
      | exact .inr (.inr (.inr (.inr (.inr (.inr (.inr (by omega))))))))

/-- the rays to the right and to the left -/
theorem quad_neg {a b c d P Q : Int} (hP : Sgn a d P) (hQ : Sgn b c Q)
    (ho : ¬ (P = Q ∧ ((a ≤ 0 ∧ 0 ≤ c) ∨ (c ≤ 0 ∧ 0 ≤ a)) ∧ ((b ≤ 0 ∧ 0 ≤ d) ∨ (d ≤ 0 ∧ 0 ≤ b)))) :
    decide ((b ≤ 0 ∧ 0 < d ∧ P < Q) ∨ (d ≤ 0 ∧ 0 < b ∧ Q < P)) = (decide ((b ≤ 0 ∧ 0 < d ∧ Q < P) ∨ (d ≤ 0 ∧ 0 < b ∧ P < Q)) != (decide (b ≤ 0) != decide (d ≤ 0))) := by
  apply bxor4
  obtain ⟨hP, hP0⟩ := hP
  obtain ⟨hQ, hQ0⟩ := hQ
  rcases hP with ⟨a1, a2, a3⟩ | ⟨a1, a2, a3⟩ | ⟨a1, a2, a3⟩ | ⟨a1, a2, a3⟩ <;> rcases hQ with ⟨b1, b2, b3⟩ | ⟨b1, b2, b3⟩ | ⟨b1, b2, b3⟩ | ⟨b1, b2, b3⟩ <;>
    (rcases Int.lt_trichotomy P Q with hq | hq | hq <;> first
      | (exfalso; omega)
      | exact .inl (by omega)
      | exact .inr (.inl (by omega))
      | exact .inr (.inr (.inl (by omega)))
      | exact .inr (.inr (.inr (.inl (by omega))))
      | exact .inr (.inr (.inr (.inr (.inl (by omega)))))
      | exact .inr (.inr (.inr (.inr (.inr (.inl (by omega))))))
      | exact .inr (.inr (.inr (.inr (.inr (.inr (.inl (by omega)))))))
      | exact .inr (.inr (.inr (.inr (.inr (.inr (.inr (by omega))))))))
section
variable {Ax Ay Bx By Px Py a b c d : Int}
theorem cross_norm (ha : Ax - Px = a) (hb : Ay - Py = b) (hc : Bx - Px = c) (hd : By - Py = d) : (By - Ay) * (Px - Ax) = b * a - a * d ∧ (Py - Ay) * (Bx - Ax) = b * a - b * c := by
  constructor
  · rw [show By - Ay = d - b by omega, show Px - Ax = -a by omega, Int.sub_mul, Int.mul_neg, Int.mul_neg, Int.mul_comm d a]; omega
  · rw [show Py - Ay = -b by omega, show Bx - Ax = c - a by omega, Int.mul_sub, Int.neg_mul, Int.neg_mul]; omega
theorem rcIn_norm (ha : Ax - Px = a) (hb : Ay - Py = b) (hc : Bx - Px = c) (hd : By - Py = d) : rcIn Ax Ay Bx By Px Py = decide ((b ≤ 0 ∧ 0 < d ∧ b * c < a * d) ∨ (d ≤ 0 ∧ 0 < b ∧ a * d < b * c)) := by
  obtain ⟨e1, e2⟩ := cross_norm ha hb hc hd
  rw [rcIn, e1, e2]
  apply decide_eq_decide.2
  omega
theorem rcOn_norm (ha : Ax - Px = a) (hb : Ay - Py = b) (hc : Bx - Px = c) (hd : By - Py = d) : rcOn Ax Ay Bx By Px Py = decide (a * d = b * c ∧ ((a ≤ 0 ∧ 0 ≤ c) ∨ (c ≤ 0 ∧ 0 ≤ a)) ∧ ((b ≤ 0 ∧ 0 ≤ d) ∨ (d ≤ 0 ∧ 0 ≤ b))) := by
  obtain ⟨e1, e2⟩ := cross_norm ha hb hc hd
  rw [rcOn, Int.mul_comm (Px - Ax), e1, e2]
  apply decide_eq_decide.2
  omega
theorem rcIn_rot (h : rcOn Ax Ay Bx By Px Py = false) : rcIn (-Ay) Ax (-By) Bx (-Py) Px = (rcIn Ax Ay Bx By Px Py != (decide (0 < Ax - Px ∧ Ay - Py ≤ 0) != decide (0 < Bx - Px ∧ By - Py ≤ 0))) := by
  obtain ⟨a, ha⟩ : ∃ a, Ax - Px = a := ⟨_, rfl⟩
  obtain ⟨b, hb⟩ : ∃ b, Ay - Py = b := ⟨_, rfl⟩
  obtain ⟨c, hc⟩ : ∃ c, Bx - Px = c := ⟨_, rfl⟩
  obtain ⟨d, hd⟩ : ∃ d, By - Py = d := ⟨_, rfl⟩
  rw [rcOn_norm ha hb hc hd] at h
  rw [rcIn_norm (a := -b) (b := a) (c := -d) (d := c) (by omega) ha (by omega) hc, rcIn_norm ha hb hc hd, ha, hb, hc, hd, ← quad_rot (mul_sgn a d) (mul_sgn b c) (of_decide_eq_false h)]
  rw [Int.mul_neg, Int.neg_mul]
  apply decide_eq_decide.2
  omega
theorem rcIn_neg (h : rcOn Ax Ay Bx By Px Py = false) : rcIn (-Ax) Ay (-Bx) By (-Px) Py = (rcIn Ax Ay Bx By Px Py != (decide (Ay - Py ≤ 0) != decide (By - Py ≤ 0))) := by
  obtain ⟨a, ha⟩ : ∃ a, Ax - Px = a := ⟨_, rfl⟩
  obtain ⟨b, hb⟩ : ∃ b, Ay - Py = b := ⟨_, rfl⟩
  obtain ⟨c, hc⟩ : ∃ c, Bx - Px = c := ⟨_, rfl⟩
  obtain ⟨d, hd⟩ : ∃ d, By - Py = d := ⟨_, rfl⟩
  rw [rcOn_norm ha hb hc hd] at h
  rw [rcIn_norm (a := -a) (b := b) (c := -c) (d := d) (by omega) hb (by omega) hd, rcIn_norm ha hb hc hd, hb, hd, ← quad_neg (mul_sgn a d) (mul_sgn b c) (of_decide_eq_false h)]
  rw [Int.mul_neg, Int.neg_mul]
  apply decide_eq_decide.2
  omega
end
theorem at_map (f : Int × Int → Int × Int) {l : List (Int × Int)} {k : Nat} (h : k < l.length) : at' (l.map f) k = f (at' l k) := by
  unfold at'
  rw [List.getD_eq_getElem?_getD, List.getD_eq_getElem?_getD, List.getElem?_map, List.getElem?_eq_getElem h]
  rfl
theorem nxp_map (f : Int × Int → Int × Int) {l : List (Int × Int)} {k : Nat} (h : k < l.length) : nxp (l.map f) k = f (nxp l k) := by
  unfold nxp
  rw [List.length_map]
  split
  · exact at_map f (by omega)
  · exact at_map f (by omega)
/-- what is told of each edge by its two ends tells nothing of the ring -/
theorem tele {l m : List (Int × Int)} {p p' : Int × Int} (q : Int × Int → Bool) (h0 : 0 < l.length) (h : ∀ k, k < l.length → rin m p' k = (rin l p k != (q (at' l k) != q (nxp l k)))) : xrs m p' l.length = xrs l p l.length := by
  have key : ∀ k, k < l.length → xrs m p' k = (xrs l p k != (q (at' l 0) != q (at' l k))) := by
    intro k
    induction k with
    | zero => intro _; simp [xrs]
    | succ k ih =>
      intro hk
      rw [xrs, xrs, ih (by omega), h k (by omega), nxp_mid hk]
      cases q (at' l 0) <;> cases q (at' l k) <;> cases q (at' l (k + 1)) <;> cases xrs l p k <;> cases rin l p k <;> rfl
  obtain ⟨n, hn⟩ : ∃ n, l.length = n + 1 := ⟨l.length - 1, by omega⟩
  rw [hn, xrs, xrs, key n (by omega), h n (by omega), nxp_end hn.symm]
  cases q (at' l 0) <;> cases q (at' l n) <;> cases xrs l p n <;> cases rin l p n <;> rfl
theorem aon_ron {l : List (Int × Int)} {p : Int × Int} : ∀ n, aon l p n = false → ∀ k, k < n → ron l p k = false := by
  intro n
  induction n with
  | zero => intro _ k hk; omega
  | succ n ih =>
    intro h k hk
    rw [aon, Bool.or_eq_false_iff] at h
    rcases Nat.lt_or_ge k n with h1 | h1
    · exact ih h.1 k h1
    · obtain rfl : k = n := by omega
      exact h.2
/-- a map of the plane that keeps which rings hold which points -/
def Good (f : Int × Int → Int × Int) : Prop := ∀ (l : List (Int × Int)) (p : Int × Int), 0 < l.length → aon (l.map f) (f p) l.length = aon l p l.length ∧ (aon l p l.length = false → xrs (l.map f) (f p) l.length = xrs l p l.length)
theorem Good.comp {f g : Int × Int → Int × Int} (hf : Good f) (hg : Good g) : Good (fun p => g (f p)) := by
  intro l p h0
  obtain ⟨a1, a2⟩ := hf l p h0
  obtain ⟨b1, b2⟩ := hg (l.map f) (f p) (by simpa using h0)
  rw [List.length_map, List.map_map] at b1 b2
  exact ⟨b1.trans a1, fun h => (b2 (a1.trans h)).trans (a2 h)⟩
theorem aon_same {l m : List (Int × Int)} {p p' : Int × Int} : ∀ n, (∀ k, k < n → ron m p' k = ron l p k) → aon m p' n = aon l p n := by
  intro n
  induction n with
  | zero => intro _; rfl
  | succ n ih => intro h; rw [aon, aon, ih (fun k hk => h k (by omega)), h n (by omega)]
theorem Good.id : Good (fun p => p) := fun l p _ => by simp
theorem good_of {f : Int × Int → Int × Int} (q : Int × Int → Int × Int → Bool) (hon : ∀ a b p, rcOn (f a).1 (f a).2 (f b).1 (f b).2 (f p).1 (f p).2 = rcOn a.1 a.2 b.1 b.2 p.1 p.2)
    (hin : ∀ a b p, rcOn a.1 a.2 b.1 b.2 p.1 p.2 = false → rcIn (f a).1 (f a).2 (f b).1 (f b).2 (f p).1 (f p).2 = (rcIn a.1 a.2 b.1 b.2 p.1 p.2 != (q p a != q p b))) : Good f := by
  intro l p h0
  refine ⟨aon_same _ fun k hk => ?_, fun h => tele (q p) h0 fun k hk => ?_⟩
  · unfold ron
    rw [at_map f hk, nxp_map f hk]
    exact hon _ _ _
  · have := aon_ron _ h k hk
    unfold ron at this
    unfold rin
    rw [at_map f hk, nxp_map f hk]
    exact hin _ _ _ this
theorem good_rot : Good (fun p => (-p.2, p.1)) := good_of (fun p a => decide (0 < a.1 - p.1 ∧ a.2 - p.2 ≤ 0)) (fun _ _ _ => rcOn_rot) (fun _ _ _ h => rcIn_rot h)
theorem good_neg : Good (fun p => (-p.1, p.2)) := good_of (fun p a => decide (a.2 - p.2 ≤ 0)) (fun _ _ _ => rcOn_neg) (fun _ _ _ h => rcIn_neg h)
theorem good_sm (S DX DY : Int) (hS : 0 < S) : Good (fun p => (p.1 * S + DX, p.2 * S + DY)) := good_of (fun _ _ => false) (fun _ _ _ => rcOn_sm S DX DY hS) (fun a b p _ => by
  show rcIn (a.1 * S + DX) (a.2 * S + DY) (b.1 * S + DX) (b.2 * S + DY) (p.1 * S + DX) (p.2 * S + DY) = _
  rw [rcIn_sm S DX DY hS]; simp)
theorem good_rotN : ∀ n, Good (rotN n) := by
  intro n
  induction n with
  | zero => exact Good.id
  | succ n ih => exact good_rot.comp ih
/-- **which rings hold which points does not change when both are turned** -/
theorem good_tpt (K S DX DY : Int) (hS : 0 < S) : Good (tpt K S DX DY) := by
  by_cases h : 4 ≤ K
  · have := (good_neg.comp (good_rotN (K % 4).toNat)).comp (good_sm S DX DY hS)
    have e : (fun p => tpt K S DX DY p) = fun p => ((rotN (K % 4).toNat (-p.1, p.2)).1 * S + DX, (rotN (K % 4).toNat (-p.1, p.2)).2 * S + DY) := by
      funext p; simp [tpt, h]
    show Good (fun p => tpt K S DX DY p)
    rw [e]
    exact this
  · have := (good_rotN (K % 4).toNat).comp (good_sm S DX DY hS)
    have e : (fun p => tpt K S DX DY p) = fun p => ((rotN (K % 4).toNat p).1 * S + DX, (rotN (K % 4).toNat p).2 * S + DY) := by
      funext p; simp [tpt, h]
    show Good (fun p => tpt K S DX DY p)
    rw [e]
    exact this
end PF
set_option linter.unusedSimpArgs false
set_option linter.unusedVariables false
/-! Slices of slices of points; the guards of size. -/
namespace PF
open Go Go.RowKit JR
/-- the slice v holds slices of points -/
def SlH (w : World) (v : Value) (H : List (List (Int × Int))) : Prop :=
  ∃ A c, v = .slice A H.length c ∧ ∀ k h, H[k]? = some h → ∃ b off vh, A = some ⟨b, off, none⟩ ∧ w.cell? ⟨b, off + k, none⟩ = some vh ∧ SlP w vh h
theorem SlH.below {w w' : World} {v : Value} {H : List (List (Int × Int))} (h : SlH w v H) (hb : Below w.heap.size w w') : SlH w' v H := by
  obtain ⟨A, c, hv, hk⟩ := h
  refine ⟨A, c, hv, fun k x hx => ?_⟩
  obtain ⟨b, off, vh, h1, h2, h3⟩ := hk k x hx
  exact ⟨b, off, vh, h1, (hb.cell (World.block_lt_of_cell? w _ h2)).trans h2, h3.below hb⟩
theorem SlP.len {w : World} {v : Value} {l : List (Int × Int)} (h : SlP w v l) : ∃ A c, v = .slice A l.length c := by
  obtain ⟨A, c, hv, _⟩ := h
  exact ⟨A, c, hv⟩
end PF
namespace Go.Proofs.YtdlcckkphjpeoaaGreat
open Go.RowKit PF JR

set_option maxHeartbeats 1000000 in
theorem fits8_c (H : List (List (Int × Int))) (hH : H.length ≤ 9223372036854775807) (hl : ∀ h ∈ H, h.length ≤ 9223372036854775807) (v : Value) (w : World) (hv : SlH w v H) :
    Calls Tryz.prog 19 #[v] w fun e w' => e = .returned (.bool (decide (H.length ≤ 2147483647) && H.all fun h => decide (h.length ≤ 2147483647))) ∧ Below w.heap.size w w' := by
  obtain ⟨A, c, rfl, hk⟩ := hv
  generalize hAns : (decide (H.length ≤ 2147483647) && H.all fun h => decide (h.length ≤ 2147483647)) = ans
  by_cases h0 : H.length ≤ 2147483647
  · have d0 : ¬ (2147483647 : Int) < (H.length : Int) := by omega
    have d1 := decide_eq_false d0
    rw [decide_eq_true h0, Bool.true_and] at hAns
    go_enter Tryz.func19, Tryz.ntmps19
    go_wp2
    go_loopw [10] (fun i wr => ∃ k : Nat, k ≤ H.length ∧ i = .int .i64 k ∧ (∀ h ∈ H.take k, h.length ≤ 2147483647) ∧ Below w.heap.size w wr) (fun i _ => H.length - (intOf i).toNat)
    case atStart => exact ⟨0, Nat.zero_le _, rfl, by simp, Below.refl _ _⟩
    case round =>
      obtain ⟨k, hkl, rfl, hall, hnx⟩ := hrel
      rcases Nat.lt_or_ge k H.length with hlt | hge
      · obtain ⟨h, hh⟩ : ∃ h, H[k]? = some h := ⟨H[k], by simp [hlt]⟩
        obtain ⟨b, off, vh, rfl, h1, h2⟩ := hk k h hh
        obtain ⟨A', c', rfl⟩ := h2.len
        have g1 := (hnx.cell (World.block_lt_of_cell? w _ h1)).trans h1
        have hlen := hl h (List.mem_of_getElem? hh)
        clear h1 h2 hk
        by_cases hb : h.length ≤ 2147483647
        · have d2 : ¬ (2147483647 : Int) < (h.length : Int) := by omega
          have d3 := decide_eq_false d2
          go_wp2
          go_roundw
          case rel =>
            refine ⟨k + 1, by omega, by go_num, ?_, hnx⟩
            intro x hx
            rw [List.take_add_one, hh] at hx
            simp at hx
            rcases hx with hx | rfl
            · exact hall x hx
            · exact hb
          case measure => simp [intOf]; omega
        · have d2 : (2147483647 : Int) < (h.length : Int) := by omega
          have d3 := decide_eq_true d2
          have hans : ans = false := by
            rw [← hAns]
            cases hx : H.all fun h => decide (h.length ≤ 2147483647) with
            | false => rfl
            | true =>
              rw [List.all_eq_true] at hx
              exact absurd (of_decide_eq_true (hx h (List.mem_of_getElem? hh))) hb
          clear hAns hall
          go_wp2
          go_ret
          exact ⟨by rw [hans]; rfl, hnx⟩
      · have hkk : k = H.length := by omega
        subst hkk
        rw [List.take_length] at hall
        have hans : ans = true := by
          rw [← hAns, List.all_eq_true]
          exact fun x hx => decide_eq_true (hall x hx)
        clear hAns hall hk
        go_wp2
        go_ret
        exact ⟨by rw [hans]; rfl, hnx⟩
  · have d0 : (2147483647 : Int) < (H.length : Int) := by omega
    have d1 := decide_eq_true d0
    rw [decide_eq_false h0, Bool.false_and] at hAns
    subst hAns
    go_enter Tryz.func19, Tryz.ntmps19
    go_wp2
    go_ret
    exact ⟨rfl, Below.refl _ _⟩

set_option maxHeartbeats 1000000 in
theorem fits7_c (K : Int) (l : List (Int × Int)) (H : List (List (Int × Int))) (hl0 : l.length ≤ 9223372036854775807) (hH : H.length ≤ 9223372036854775807) (hl : ∀ h ∈ H, h.length ≤ 9223372036854775807) (v vh : Value) (w : World) (hv : SlP w v l) (hh : SlH w vh H) :
    Calls Tryz.prog 6 #[.agg #[.int .i64 K, v, vh]] w fun e w' => e = .returned (.bool (decide (l.length ≤ 2147483647) && (decide (H.length ≤ 2147483647) && H.all fun h => decide (h.length ≤ 2147483647)))) ∧ Below w.heap.size w w' := by
  obtain ⟨A, c, rfl⟩ := hv.len
  have st0 := (Blk.nil w).push rfl #[.int .i64 K, .slice A l.length c, vh] 27
  have hh' := hh.below st0.hb
  by_cases h0 : l.length ≤ 2147483647
  · have d0 : ¬ (2147483647 : Int) < (l.length : Int) := by omega
    have d1 := decide_eq_false d0
    rw [decide_eq_true h0, Bool.true_and]
    have c8 := fun w h => fits8_c H hH hl vh w h
    generalize (decide (H.length ≤ 2147483647) && H.all fun h => decide (h.length ≤ 2147483647)) = ans at *
    go_enter Tryz.func6, Tryz.ntmps6
    go_wp2_with (go_at_call 19; refine (c8 _ hh').mono ?_; rintro e w1 ⟨rfl, hb⟩)
    all_goals cases ans
    all_goals first | (exfalso; simp at *; done) | skip
    all_goals
      go_wp2
      go_ret
      exact ⟨rfl, st0.hb.trans (hb.mono (by simp))⟩
  · have d0 : (2147483647 : Int) < (l.length : Int) := by omega
    have d1 := decide_eq_true d0
    rw [decide_eq_false h0, Bool.false_and]
    go_enter Tryz.func6, Tryz.ntmps6
    go_wp2
    go_ret
    exact ⟨rfl, st0.hb⟩
end Go.Proofs.YtdlcckkphjpeoaaGreat
set_option linter.unusedSimpArgs false
set_option linter.unusedVariables false
/-! laws.isVary: what a shape is where it answers true. -/
namespace PF
open Go Go.RowKit JR
structure Stop1 (p : Prop) : Prop where out : p
def VaryS (K : Int) (l : List (Int × Int)) (H : List (List (Int × Int))) : Prop :=
  l.all okP = true ∧ H.length ≤ 3 ∧ (K ≠ 3 → H = []) ∧ (∀ h ∈ H, 3 ≤ h.length ∧ h.length ≤ 8 ∧ h.all okP = true) ∧
  ((K = 0 ∧ l.length = 1) ∨ (K = 1 ∧ ∃ X0 Y0 X1 Y1, l = [(X0, Y0), (X1, Y1)] ∧ X0 < X1 ∧ Y0 < Y1) ∨ (K = 2 ∧ 2 ≤ l.length ∧ l.length ≤ 12) ∨ (K = 3 ∧ 3 ≤ l.length ∧ l.length ≤ 12))
def IsvP (K : Int) (l : List (Int × Int)) (H : List (List (Int × Int))) (w : World) (e : Ending) (w' : World) : Prop :=
  ∃ b : Bool, e = .returned (.bool b) ∧ (b = true → VaryS K l H) ∧ Below w.heap.size w w'
theorem IsvP.no {K : Int} {l : List (Int × Int)} {H : List (List (Int × Int))} {w w' : World} {e : Ending} (h : e = .returned (.bool false)) (hB : Below w.heap.size w w') : IsvP K l H w e w' := ⟨false, h, fun h => (nomatch h), hB⟩
theorem IsvP.yes {K : Int} {l : List (Int × Int)} {H : List (List (Int × Int))} {w w' : World} {e : Ending} (b : Bool) (h : e = .returned (.bool b)) (hV : b = true → VaryS K l H) (hB : Below w.heap.size w w') : IsvP K l H w e w' := ⟨b, h, hV, hB⟩
end PF
namespace Go.Proofs.YtdlcckkphjpeoaaGreat
open Go.RowKit PF JR

set_option maxHeartbeats 2000000 in
set_option maxRecDepth 100000 in
theorem isVaryS_c (K : Int) (l : List (Int × Int)) (H : List (List (Int × Int))) (hl0 : l.length ≤ 2147483647) (hl : ∀ h ∈ H, h.length ≤ 2147483647) (v vh : Value) (w : World) (hv : SlP w v l) (hh : SlH w vh H) :
    Calls Tryz.prog 8 #[.agg #[.int .i64 K, v, vh]] w (IsvP K l H w) := by
  have hv0 := hv
  obtain ⟨A, c, rfl, hkl⟩ := hv
  obtain ⟨A', c', rfl, hkh⟩ := hh
  have st0 := (Blk.nil w).push rfl #[.int .i64 K, .slice A l.length c, .slice A' H.length c'] 27
  have s0 := hv0.below st0.hb
  go_enter Tryz.func8, Tryz.ntmps8
  go_wp2_with (first | (go_at_call 15; refine Stop1.out ?_) | (go_at_call 20; refine Stop1.out ?_))
  refine ⟨?_⟩
  refine (varyOf_c l hl0 _ _ s0).mono ?_
  rintro e w1 ⟨v1, rfl, sv1, hb⟩
  have st1 := st0.ext hb
  clear hb
  go_wp2_with (first | (go_at_call 15; refine Stop1.out ?_) | (go_at_call 20; refine Stop1.out ?_))
  refine ⟨?_⟩
  refine (isVaryP_c l hl0 _ _ sv1).mono ?_
  rintro e w2 ⟨rfl, hb⟩
  have st2 := st1.ext hb
  clear hb st0 st1 sv1 s0 hv0
  have hB := st2.hb
  have c0 := st2.cell 0 rfl 0
  have c1 := st2.cell 0 rfl 1
  have c2 := st2.cell 0 rfl 2
  simp only [List.getElem?_toArray, List.getElem?_cons_zero, List.getElem?_cons_succ] at c0 c1 c2
  cases hok : l.all okP
  case false =>
    go_wp2
    go_ret
    exact IsvP.no rfl hB
  by_cases hH3 : H.length ≤ 3
  case neg =>
    have d1 : (3 : Int) < (H.length : Int) := by omega
    have d2 := decide_eq_true d1
    go_wp2
    go_ret
    exact IsvP.no rfl hB
  have d1 : ¬ (3 : Int) < (H.length : Int) := by omega
  have d2 := decide_eq_false d1
  by_cases hK : K = 3
  case neg =>
    have e1 : (K != 3) = true := by simp [hK]
    by_cases hH0 : H = []
    case neg =>
      have hlen : 0 < H.length := List.length_pos_iff.2 hH0
      have d3 : (0 : Int) < (H.length : Int) := by omega
      have d4 := decide_eq_true d3
      go_wp2
      go_ret
      exact IsvP.no rfl hB
    subst hH0
    clear hkh hl d1 d2 hH3
    go_wp2
    refine wp_loop_rounds 1 ?_
    rw [rounds_succ]
    by_cases k0 : K = 0
    case pos =>
      subst k0
      by_cases n1 : l.length = 1
      · have d3 : ((l.length : Nat) : Int) = 1 := by omega
        have d4 : (((l.length : Nat) : Int) == 1) = true := by simp [d3]
        go_wp2
        go_ret
        exact IsvP.yes _ rfl (fun _ => ⟨hok, by simp, fun _ => rfl, by simp, .inl ⟨rfl, n1⟩⟩) hB
      · have d4 : (((l.length : Nat) : Int) == 1) = false := beq_eq_false_iff_ne.2 (by omega)
        go_wp2
        go_ret
        exact IsvP.no rfl hB
    have q0 : (K == 0) = false := beq_eq_false_iff_ne.2 k0
    by_cases k1 : K = 1
    case pos =>
      subst k1
      by_cases n2 : l.length = 2
      · match l, n2 with
        | [(X0, Y0), (X1, Y1)], _ =>
          obtain ⟨b, off, rfl, h1, h2⟩ := hkl 0 _ rfl
          obtain ⟨b', off', hA, h3, h4⟩ := hkl 1 _ rfl
          cases hA
          have g1 := (hB.cell (World.block_lt_of_cell? w _ h1)).trans h1
          have g2 := (hB.cell (World.block_lt_of_cell? w _ h2)).trans h2
          have g3 := (hB.cell (World.block_lt_of_cell? w _ h3)).trans h3
          have g4 := (hB.cell (World.block_lt_of_cell? w _ h4)).trans h4
          simp only [Nat.zero_mul, Nat.one_mul, Nat.add_zero, List.length_cons, List.length_nil, Nat.zero_add, Nat.reduceAdd] at g1 g2 g3 g4 c1
          clear h1 h2 h3 h4 hkl
          by_cases p1 : X0 < X1
          · by_cases p2 : Y0 < Y1
            · have d5 := decide_eq_true p1
              have d6 := decide_eq_true p2
              go_wp2
              go_quiet (fail)
              go_wp2
              go_ret
              exact IsvP.yes _ rfl (fun _ => ⟨hok, by simp, fun _ => rfl, by simp, .inr (.inl ⟨rfl, X0, Y0, X1, Y1, rfl, p1, p2⟩)⟩) (below_drewN hB _)
            · have d5 := decide_eq_true p1
              have d6 := decide_eq_false p2
              go_wp2
              go_quiet (fail)
              go_wp2
              go_ret
              exact IsvP.no rfl (below_drewN hB _)
          · have d5 := decide_eq_false p1
            go_wp2
            go_quiet (fail)
            go_wp2
            go_ret
            exact IsvP.no rfl (below_drewN hB _)
      · have d4 : (((l.length : Nat) : Int) == 2) = false := beq_eq_false_iff_ne.2 (by omega)
        clear hkl
        go_wp2
        go_quiet (fail)
        go_wp2
        go_ret
        exact IsvP.no rfl (below_drewN hB _)
    have q1 : (K == 1) = false := beq_eq_false_iff_ne.2 k1
    by_cases k2 : K = 2
    case pos =>
      subst k2
      by_cases n2 : 2 ≤ l.length
      · have d3 := decide_eq_true (show (2 : Int) ≤ (l.length : Int) by omega)
        by_cases n3 : l.length ≤ 12
        · have d4 := decide_eq_true (show (l.length : Int) ≤ 12 by omega)
          go_wp2
          go_ret
          exact IsvP.yes _ rfl (fun _ => ⟨hok, by simp, fun _ => rfl, by simp, .inr (.inr (.inl ⟨rfl, n2, n3⟩))⟩) hB
        · have d4 := decide_eq_false (show ¬ (l.length : Int) ≤ 12 by omega)
          go_wp2
          go_ret
          exact IsvP.no rfl hB
      · have d3 := decide_eq_false (show ¬ (2 : Int) ≤ (l.length : Int) by omega)
        go_wp2
        go_ret
        exact IsvP.no rfl hB
    have q2 : (K == 2) = false := beq_eq_false_iff_ne.2 k2
    have q3 : (K == 3) = false := beq_eq_false_iff_ne.2 hK
    go_wp2
    go_ret
    exact IsvP.no rfl hB
  subst hK
  go_wp2
  go_loopw [34] (fun i wr => ∃ k : Nat, k ≤ H.length ∧ i = .int .i64 k ∧ (∀ h ∈ H.take k, 3 ≤ h.length ∧ h.length ≤ 8 ∧ h.all okP = true) ∧ Blk w wr [(w.heap.size, #[.int .i64 3, .slice A l.length c, .slice A' H.length c'], 27)]) (fun i _ => H.length - (intOf i).toNat)
  case atStart => exact ⟨0, Nat.zero_le _, rfl, by simp, st2⟩
  case round =>
    obtain ⟨k, hkle, rfl, hall, hS⟩ := hrel
    clear c0 c1 c2 hB
    have c0 := hS.cell 0 rfl 0
    have c1 := hS.cell 0 rfl 1
    have c2 := hS.cell 0 rfl 2
    simp only [List.getElem?_toArray, List.getElem?_cons_zero, List.getElem?_cons_succ] at c0 c1 c2
    rcases Nat.lt_or_ge k H.length with hlt | hge
    · obtain ⟨h, hh⟩ : ∃ h, H[k]? = some h := ⟨H[k], by simp [hlt]⟩
      obtain ⟨b, off, vx, rfl, h1, h2⟩ := hkh k h hh
      have s3 := h2.below hS.hb
      obtain ⟨A2, c3, rfl⟩ := h2.len
      have g1 := (hS.hb.cell (World.block_lt_of_cell? w _ h1)).trans h1
      have hlen := hl h (List.mem_of_getElem? hh)
      clear h1 h2 hkh hkl st2 d1 d2
      by_cases m1 : h.length < 3
      · have d1 : (h.length : Int) < 3 := by omega
        have d2 := decide_eq_true d1
        go_wp2
        go_ret
        exact IsvP.no rfl hS.hb
      have d1 : ¬ (h.length : Int) < 3 := by omega
      have d2 := decide_eq_false d1
      by_cases m2 : 8 < h.length
      · have d3 : (8 : Int) < (h.length : Int) := by omega
        have d4 := decide_eq_true d3
        go_wp2
        go_ret
        exact IsvP.no rfl hS.hb
      have d3 : ¬ (8 : Int) < (h.length : Int) := by omega
      have d4 := decide_eq_false d3
      go_wp2_with (first | (go_at_call 15; refine Stop1.out ?_) | (go_at_call 20; refine Stop1.out ?_))
      refine ⟨?_⟩
      refine (varyOf_c h hlen _ _ s3).mono ?_
      rintro e w3 ⟨v3, rfl, sv3, hb⟩
      have hS1 := hS.ext hb
      clear hb
      go_wp2_with (first | (go_at_call 15; refine Stop1.out ?_) | (go_at_call 20; refine Stop1.out ?_))
      refine ⟨?_⟩
      refine (isVaryP_c h hlen _ _ sv3).mono ?_
      rintro e w4 ⟨rfl, hb⟩
      have hS2 := hS1.ext hb
      clear hb hS1 sv3 hS c0 c1 c2 s3 g1
      cases hoh : h.all okP
      case false =>
        go_wp2
        go_ret
        exact IsvP.no rfl hS2.hb
      go_wp2
      go_roundw
      case rel =>
        refine ⟨k + 1, by omega, by go_num, ?_, hS2⟩
        intro x hx
        rw [List.take_add_one, hh] at hx
        simp at hx
        rcases hx with hx | rfl
        · exact hall x hx
        · exact ⟨by omega, by omega, hoh⟩
      case measure => simp [intOf]; omega
    · have hkk : k = H.length := by omega
      subst hkk
      rw [List.take_length] at hall
      clear hkh hkl d1 d2 st2
      by_cases n2 : 3 ≤ l.length
      · have d3 := decide_eq_true (show (3 : Int) ≤ (l.length : Int) by omega)
        by_cases n3 : l.length ≤ 12
        · have d4 := decide_eq_true (show (l.length : Int) ≤ 12 by omega)
          go_wp2
          go_ret
          exact IsvP.yes _ rfl (fun _ => ⟨hok, hH3, fun h => absurd rfl h, hall, .inr (.inr (.inr ⟨rfl, n2, n3⟩))⟩) hS.hb
        · have d4 := decide_eq_false (show ¬ (l.length : Int) ≤ 12 by omega)
          go_wp2
          go_ret
          exact IsvP.no rfl hS.hb
      · have d3 := decide_eq_false (show ¬ (3 : Int) ≤ (l.length : Int) by omega)
        go_wp2
        go_ret
        exact IsvP.no rfl hS.hb
end Go.Proofs.YtdlcckkphjpeoaaGreat
set_option linter.unusedSimpArgs false
set_option linter.unusedVariables false
/-! The bounds that Segment.Raycast is proved for. -/
namespace Go.Proofs.YtdlcckkphjpeoaaGreat
open Go.RowKit PF JR
/-- a point that Segment.Raycast is proved for -/
def Bn4 (p : Int × Int) : Prop := p.1.natAbs ≤ 16384 ∧ p.2.natAbs ≤ 16384
theorem at_bn4 {l : List (Int × Int)} (h : ∀ p ∈ l, Bn4 p) (k : Nat) : Bn4 (at' l k) := by
  rcases Nat.lt_or_ge k l.length with h1 | h1
  · exact h _ (List.mem_of_getElem? (at_get h1))
  · unfold at' Bn4; simp [List.getD, List.getElem?_eq_none h1]
end Go.Proofs.YtdlcckkphjpeoaaGreat
set_option linter.unusedSimpArgs false
set_option linter.unusedVariables false
/-! Poly.ContainsPoint: a polygon with holes. -/
namespace PF
/-- one of the first n -/
def orN (f : Nat → Bool) : Nat → Bool
  | 0 => false
  | n + 1 => orN f n || f n
theorem orN_hit {f : Nat → Bool} {k : Nat} : ∀ {n : Nat}, k < n → f k = true → orN f n = true := by
  intro n
  induction n with
  | zero => intro h; omega
  | succ n ih =>
    intro h hk
    rw [orN]
    by_cases e : k = n
    · subst e; simp [hk]
    · rw [ih (by omega) hk]; rfl
end PF
namespace Go.Proofs.YtdlcckkphjpeoaaGreat
open Go.RowKit PF JR
set_option maxRecDepth 100000 in
set_option maxHeartbeats 4000000 in
theorem polyCPH_c (n px py : Nat) (E : Value) (hE : ∃ y, E = .iface 126 y) (r : Bool) (A : Option Addr) (N c : Nat) (hN : N ≤ 1000) (hh : Nat → Bool) (w : World) (hn : w.heap[n]? = some (.cells #[E, .slice A N c] 118 (0, 0)))
    (hring : ∀ u, Below w.heap.size w u → Calls Tryz.prog 132 #[E, .agg #[fl px, fl py], .bool true] u fun e w' => ∃ x : Int, e = .returned (.agg #[.bool r, .int .i64 x]) ∧ Below u.heap.size u w')
    (hhole : ∀ k, k < N → ∃ b y, A = some ⟨b, 0, none⟩ ∧ w.cell? ⟨b, k, none⟩ = some (.iface 126 y) ∧ ∀ u, Below w.heap.size w u → Calls Tryz.prog 132 #[.iface 126 y, .agg #[fl px, fl py], .bool false] u fun e w' => ∃ x : Int, e = .returned (.agg #[.bool (hh k), .int .i64 x]) ∧ Below u.heap.size u w') :
    Calls Tryz.prog 129 #[.pointer (some ⟨n, 0, none⟩), .agg #[fl px, fl py]] w fun e w' => e = .returned (.bool (r && !orN hh N)) ∧ Below w.heap.size w w' := by
  have st0 := (Blk.nil w).push rfl #[fl px, fl py] 64
  obtain ⟨E', rfl⟩ := hE
  have hn0 := (st0.hb.block n (lt_of_some hn)).trans hn
  have z0 := cellAt hn0 0
  have z1 := cellAt hn0 1
  simp only [List.getElem?_toArray, List.getElem?_cons_zero, List.getElem?_cons_succ] at z0 z1
  go_enter Tryz.func129, Tryz.ntmps129
  go_wp2
  generalize hW : w.alloc (.cells #[fl px, fl py] 64) = W at *
  refine wp_region_K [] [.val (.pointer (some ⟨n, 0, none⟩)), .val (.pointer (some ⟨n, 0, none⟩)), .val (.pointer (some ⟨n, 0, none⟩)), .val (.iface 126 E'), .val (.agg #[fl px, fl py]), .of (fun v => ∃ x : Int, v = .agg #[.bool r, .int .i64 x]), .val (.bool r), .val (.bool (!r))]
    [[.ini 0], [.frm 0 17], [.frm 1 18], [.frm 2 19], [.ini 3], [.frm 3 20, .frm 4 21], [.frm 5 22], [.frm 6 23]]
    mixed (by kernel_rfl) (by kernel_rfl) (allPre_of ⟨trivial, trivial, trivial, trivial, trivial, trivial, trivial, trivial, trivial⟩)
    ⟨OpOk.quiet rfl ?_, OpOk.quiet rfl ?_, OpOk.quiet rfl ?_, OpOk.quiet rfl ?_, OpOk.quiet rfl ?_, OpOk.call rfl ?_, OpOk.quiet rfl ?_, OpOk.quiet rfl ?_, trivial⟩ ?_
  · intro a u _ hf
    simp [facts, Need.fact, Act.eval] at hf
    go_simp
  · intro a u _ hf
    simp [facts, Need.fact, Ent.val, Act.eval] at hf
    go_simp
  · intro a u _ hf
    simp [facts, Need.fact, Ent.val, Act.eval] at hf
    go_simp
  · intro a u hG hf
    simp [facts, Need.fact, Ent.val, Act.eval] at hf
    have y0 := (hG.cell (p := ⟨n, 0, none⟩) (lt_of_some hn0) (by simp)).trans z0
    go_simp
  · intro a u hG hf
    simp [facts, Need.fact, Act.eval] at hf
    have stu := st0.keep hG (fun i x _ => by simp) (fun x hx => by simp at hx)
    have y0 := stu.cell 0 rfl 0
    have y1 := stu.cell 0 rfl 1
    simp only [List.getElem?_toArray, List.getElem?_cons_zero, List.getElem?_cons_succ] at y0 y1
    go_simp
  · intro a u hG hf
    simp [facts, Need.fact, Ent.val, Act.eval] at hf
    refine ⟨_, _, by go_simp, (hring u (hG.belowX st0.hb st0.hb.size (by simp))).mono ?_⟩
    rintro e w' ⟨x, rfl, hb⟩
    exact ⟨_, rfl, hb, x, rfl⟩
  · intro a u _ hf
    simp [facts, Need.fact, Ent.of, Act.eval] at hf
    obtain ⟨x, hf⟩ := hf
    have hfd : ∀ u, (Instr.field 192 (.agg #[.bool r, .int .i64 x]) 0).run Tryz.prog u = .ok (.bool r) u := fun u => by kernel_rfl
    go_simp
    try rw [hfd]
    try rfl
  · intro a u _ hf
    simp [facts, Need.fact, Ent.val, Act.eval] at hf
    go_simp
  intro u lw hw wc hKp hE hI hD
  simp only [allE, Ent.val, Ent.of] at hE
  obtain ⟨u0, u1, u2, u3, u4, ⟨x, u5⟩, u6, u7, -⟩ := hE
  simp only [Nat.reduceAdd] at u0 u1 u2 u3 u4 u5 u6 u7
  simp only [allPut, Act.put, Nat.reduceAdd, u0, u1, u2, u3, u4, u5, u6, u7]
  try simp only [List.setIfInBounds_toArray, List.set_cons_zero, List.set_cons_succ]
  clear hI hD u0 u1 u2 u3 u4 u5 u6 u7 hring
  have st1 := st0.keep hKp (fun i x _ => by simp) (fun x hx => by simp at hx)
  have y1 := (hKp.cell (p := ⟨n, 1, none⟩) (lt_of_some hn0) (by simp)).trans z1
  clear st0 hKp hW hn0 z0 z1
  cases r with
  | false =>
    clear hhole
    go_wp2
    go_ret
    exact ⟨rfl, st1.hb⟩
  | true =>
    clear hn
    simp only [Bool.not_true]
    go_wp2
    go_loopw [5, 30] (fun t i wr => t = .bool true ∧ ∃ k : Nat, k ≤ N ∧ i = .int .i64 k ∧ orN hh k = false ∧ Blk w wr [(w.heap.size, #[fl px, fl py], 64)]) (fun _ i _ => N - (intOf i).toNat)
    case atStart => exact ⟨rfl, 0, Nat.zero_le _, rfl, rfl, st1⟩
    case round =>
      clear st1 y1
      obtain ⟨rfl, k, hk, rfl, ho, hB⟩ := hrel
      rcases Nat.lt_or_ge k N with hlt | hge
      · obtain ⟨b, y, rfl, hc, hcall⟩ := hhole k hlt
        have hlt' : (k : Int) < (N : Int) := by omega
        have gc := (hB.hb.cell (World.block_lt_of_cell? w _ hc)).trans hc
        have c0 := hB.cell 0 rfl 0
        have c1 := hB.cell 0 rfl 1
        simp only [List.getElem?_toArray, List.getElem?_cons_zero, List.getElem?_cons_succ] at c0 c1
        clear hhole hc
        go_wp2_with (go_at_call 132; refine JR.StopM.out ?_)
        refine ⟨?_⟩
        refine (hcall _ hB.hb).mono ?_
        rintro e w1 ⟨x, rfl, hb⟩
        have hB1 := hB.ext hb
        clear hcall hB c0 c1 gc hb
        have hfd : (Instr.field 192 (.agg #[.bool (hh k), .int .i64 x]) 0).run Tryz.prog w1 = .ok (.bool (hh k)) w1 := by kernel_rfl
        cases hkk : hh k with
        | true =>
          have hor := orN_hit hlt hkk
          go_wp2
          rw [hkk] at hfd
          rw [hfd]
          simp only [Result.andThen_ok]
          go_wp2
          go_ret
          rw [hor]
          exact ⟨rfl, hB1.hb⟩
        | false =>
          go_wp2
          rw [hkk] at hfd
          rw [hfd]
          simp only [Result.andThen_ok]
          go_wp2
          go_roundw
          case rel => exact ⟨rfl, k + 1, hlt, by go_num, by rw [orN, ho, hkk]; rfl, hB1⟩
          case measure => simp [intOf]; omega
      · obtain rfl : k = N := by omega
        clear hhole
        go_wp2
        go_ret
        rw [ho]
        exact ⟨rfl, hB.hb⟩
end Go.Proofs.YtdlcckkphjpeoaaGreat
set_option linter.unusedSimpArgs false
set_option linter.unusedVariables false
/-! NewPoly and shaped: a polygon with holes, any index. -/
namespace PF
open Go Go.RowKit JR
/-- a slice of slices of points of floats -/
def HolQ (w : World) (v : Value) (H : List (List (Int × Int))) : Prop :=
  ∃ A c, v = .slice A H.length c ∧ ∀ k h, H[k]? = some h → ∃ b x, A = some ⟨b, 0, none⟩ ∧ w.cell? ⟨b, k, none⟩ = some x ∧ ∃ lo hi, hi ≤ w.heap.size ∧ SlQ lo hi w x h
theorem HolQ.below {w w' : World} {v : Value} {H : List (List (Int × Int))} (h : HolQ w v H) (hb : Below w.heap.size w w') : HolQ w' v H := by
  obtain ⟨A, c, hv, hk⟩ := h
  refine ⟨A, c, hv, fun k x hx => ?_⟩
  obtain ⟨b, y, h1, h2, lo, hi, h3, h4⟩ := hk k x hx
  exact ⟨b, y, h1, (hb.cell (World.block_lt_of_cell? w _ h2)).trans h2, lo, hi, Nat.le_trans h3 hb.size, h4.below hb⟩
theorem SlQ.one {lo h : Nat} {u : World} {v : Value} {l : List (Int × Int)} (H : SlQ lo h u v l) (hne : 0 < l.length) : ∃ b, lo ≤ b ∧ b < h ∧ b < u.heap.size ∧ SlQ b (b + 1) u v l := by
  obtain ⟨A, c, hv, hk⟩ := H
  obtain ⟨b, hA, h1, h2, h3, -⟩ := hk 0 (l[0]) (by simp [hne])
  refine ⟨b, h1, h2, World.block_lt_of_cell? u _ h3, A, c, hv, fun k p hp => ?_⟩
  obtain ⟨b', hA', -, -, g1, g2⟩ := hk k p hp
  rw [hA] at hA'
  cases hA'
  exact ⟨b, hA, Nat.le_refl _, by omega, g1, g2⟩
/-- a row of slices is no row of points -/
theorem own_ne {w : World} {base n : Nat} {T : TypeId} {v : Value} {xs : List Value} {b : Nat} {x : Value} {l : List (Int × Int)} (H : w.ownsRow base T 1 v n xs) (h0 : ∃ A m c, xs[0]? = some (.slice A m c))
    (hs : SlQ b (b + 1) w x l) (hne : 0 < l.length) : some b ≠ v.ownBlock := by
  intro he
  obtain ⟨A, m, c, h0⟩ := h0
  have h1 := H.cells he.symm _ _ h0
  obtain ⟨A', c', hv, hk⟩ := hs
  obtain ⟨b', hA', g1, g2, g3, -⟩ := hk 0 (l[0]) (by simp [hne])
  have hb : b' = b := by omega
  subst hb
  have e : (⟨b', 0, none⟩ : Addr).add 0 = ⟨b', 0 + 0 * 2, none⟩ := by unfold Addr.add; split <;> simp_all
  rw [e, g3] at h1
  cases h1
theorem Blk.grown {w u u' : World} {L : List (Nat × Array Value × TypeId)} {row : Option Nat} (h : Blk w u L) (hg : u.grownBy u' row) (hne : ∀ (i : Nat) (x : Nat × Array Value × TypeId), L[i]? = some x → some x.1 ≠ row) (hrow : ∀ g, row = some g → w.heap.size ≤ g) : Blk w u' L :=
  ⟨fun i x hx => (hg.block x.1 (lt_of_some (h.known i x hx)) (hne i x hx)).trans (h.known i x hx), row_below h.hb hg hrow h.hb.size⟩
theorem HolQ.own {w : World} {base : Nat} {T : TypeId} {v : Value} {xs : List Value} {H : List (List (Int × Int))} (hown : w.ownsRow base T 1 v H.length xs)
    (hqs : ∀ (j : Nat) (x : List (Int × Int)), j < H.length → H[j]? = some x → ∃ y b, xs[j]? = some y ∧ b < w.heap.size ∧ SlQ b (b + 1) w y x) : HolQ w v H := by
  rcases id hown.2 with ⟨rfl, h0⟩ | ⟨g, cap, cur, rfl, _⟩
  · have : H = [] := List.eq_nil_of_length_eq_zero h0
    subst this
    exact ⟨none, 0, rfl, fun k p hp => by simp at hp⟩
  · refine ⟨_, _, rfl, fun k x hx => ?_⟩
    have hkl : k < H.length := by
      rcases Nat.lt_or_ge k H.length with h | h
      · exact h
      · rw [List.getElem?_eq_none h] at hx; cases hx
    obtain ⟨y, b, e1, e2, e3⟩ := hqs k x hkl hx
    have a1 := hown.cells (g := g) rfl _ _ e1
    have e : (⟨g, 0, none⟩ : Addr).add k = ⟨g, k, none⟩ := by unfold Addr.add; split <;> simp_all
    rw [e] at a1
    exact ⟨g, y, rfl, a1, b, b + 1, e2, e3⟩
end PF
namespace Go.Proofs.YtdlcckkphjpeoaaGreat
open Go.RowKit PF JR
/-- a ring or a hole that is right -/
def okK (l : List (Int × Int)) : Prop := 2 ≤ l.length ∧ True ∧ l.length ≤ 12 ∧ ∀ p ∈ l, Bnd p
/-- the value is a ring of these points with an index; its blocks are from number lo up to hi -/
def RngK (K : Nat) (lo hi : Nat) (w : World) (v : Value) (l : List (Int × Int)) : Prop :=
  ∃ b : Nat, v = .iface 126 (.pointer (some ⟨b, 0, none⟩)) ∧ SkP K true l 103 lo hi b w
theorem RngK.keep {K lo hi : Nat} {w w' : World} {v : Value} {l : List (Int × Int)} (H : RngK K lo hi w v l)
    (hk : ∀ k, lo ≤ k → k < hi → k < w.heap.size → w'.heap[k]? = w.heap[k]?) : RngK K lo hi w' v l := by
  obtain ⟨b, h1, h2⟩ := H
  exact ⟨b, h1, h2.keep hk⟩
theorem RngK.wide {K lo hi lo' hi' : Nat} {w : World} {v : Value} {l : List (Int × Int)} (H : RngK K lo hi w v l) (h1 : lo' ≤ lo) (h2 : hi ≤ hi') : RngK K lo' hi' w v l := by
  obtain ⟨b, e, h⟩ := H
  exact ⟨b, e, h.wide h1 h2⟩
theorem ringK_c (K : Nat) (hK : K ≤ 2) (l : List (Int × Int)) (h : okK l) (ob : Nat) (v : Value) (lo hb0 : Nat) (w : World) (hhb : hb0 ≤ w.heap.size)
    (hob : w.heap[ob]? = some (.cells #[.int .u8 K, .int .i64 2] 99 (0, 0))) (hv : SlQ lo hb0 w v l) :
    Calls Tryz.prog 63 #[v, .pointer (some ⟨ob, 0, none⟩)] w fun e w' => ∃ v', e = .returned v' ∧ RngK K w.heap.size w'.heap.size w' v' l ∧ Below w.heap.size w w' := by
  refine (newRingK_c K l v _ w (makeSeriesK_c K hK true l h.2.2.1 h.1 h.2.2.2 ob v lo hb0 w hhb hob hv)).mono ?_
  rintro e w' ⟨b, rfl, hs, hB⟩
  exact ⟨_, rfl, ⟨b, rfl, hs⟩, hB⟩
/-- a slice of rings -/
def RgsK (K : Nat) (lo hi : Nat) (w : World) (v : Value) (H : List (List (Int × Int))) : Prop :=
  ∃ A c, v = .slice A H.length c ∧ ∀ k h, H[k]? = some h → ∃ b x, A = some ⟨b, 0, none⟩ ∧ lo ≤ b ∧ b < hi ∧ w.cell? ⟨b, k, none⟩ = some x ∧ RngK K lo hi w x h
theorem RgsK.keep {K : Nat} {lo hi : Nat} {w w' : World} {v : Value} {H : List (List (Int × Int))} (h : RgsK K lo hi w v H) (hb : ∀ k, lo ≤ k → k < hi → k < w.heap.size → w'.heap[k]? = w.heap[k]?) : RgsK K lo hi w' v H := by
  obtain ⟨A, c, hv, hk⟩ := h
  refine ⟨A, c, hv, fun k x hx => ?_⟩
  obtain ⟨b, y, h1, h5, h6, h2, h4⟩ := hk k x hx
  exact ⟨b, y, h1, h5, h6, (World.cell?_of_block (hb b h5 h6 (World.block_lt_of_cell? w _ h2))).trans h2, h4.keep hb⟩
/-- block n holds a polygon; its blocks are from number lo up to hi -/
def PolK (K : Nat) (lo hi : Nat) (w : World) (n : Nat) (l : List (Int × Int)) (H : List (List (Int × Int))) : Prop :=
  ∃ ve vs, lo ≤ n ∧ n < hi ∧ w.heap[n]? = some (.cells #[ve, vs] 118 (0, 0)) ∧ RngK K lo hi w ve l ∧ RgsK K lo hi w vs H
theorem PolK.keep {K : Nat} {lo hi : Nat} {w w' : World} {n : Nat} {l : List (Int × Int)} {H : List (List (Int × Int))} (h : PolK K lo hi w n l H) (hb : ∀ k, lo ≤ k → k < hi → k < w.heap.size → w'.heap[k]? = w.heap[k]?) : PolK K lo hi w' n l H := by
  obtain ⟨ve, vs, g1, g2, h1, h2, h3⟩ := h
  exact ⟨ve, vs, g1, g2, (hb n g1 g2 (lt_of_some h1)).trans h1, h2.keep hb, h3.keep hb⟩
theorem PolK.below {K : Nat} {lo hi : Nat} {w w' : World} {n : Nat} {l : List (Int × Int)} {H : List (List (Int × Int))} (h : PolK K lo hi w n l H) (hb : Below w.heap.size w w') : PolK K lo hi w' n l H :=
  h.keep fun k _ _ h3 => hb.block k h3
def PoK (K : Nat) (l : List (Int × Int)) (H : List (List (Int × Int))) (w : World) (e : Ending) (w' : World) : Prop :=
  ∃ n : Nat, e = .returned (.pointer (some ⟨n, 0, none⟩)) ∧ PolK K w.heap.size w'.heap.size w' n l H ∧ Below w.heap.size w w'
/-- a ring, as an operation gives it -/
def _root_.JR.Ent.rngK (K : Nat) (l : List (Int × Int)) : Ent := .rel (fun v lo hi w => RngK K lo hi w v l) (fun _ _ _ _ _ hk H => H.keep fun k h1 h2 _ => hk k h1 h2)
theorem infoSr : (Tryz.prog.info? 115).map (fun i => (i.zero, i.size, i.bytes)) = some (some .nilIface, 1, 16) := by kernel_rfl

set_option maxRecDepth 100000 in
set_option maxHeartbeats 2000000 in
theorem newPolyKH_c (K : Nat) (hK2 : K ≤ 2) (l : List (Int × Int)) (H : List (List (Int × Int))) (h : okK l) (hH : ∀ x ∈ H, okK x) (hm : H.length ≤ 1000) (ob : Nat) (v vh : Value) (lo hb0 : Nat) (w : World) (hhb : hb0 ≤ w.heap.size)
    (hob : w.heap[ob]? = some (.cells #[.int .u8 K, .int .i64 2] 99 (0, 0))) (hv : SlQ lo hb0 w v l) (hvh : HolQ w vh H) :
    Calls Tryz.prog 55 #[v, vh, .pointer (some ⟨ob, 0, none⟩)] w (PoK K l H w) := by
  obtain ⟨A, c, hvv, hk⟩ := hvh
  subst hvv
  obtain ⟨i0, hi, hz0, hz1, hz2⟩ := info_parts infoSr
  have hmk : ∀ u : World, (Instr.makeSlice 116 (.int .i64 H.length) (.int .i64 H.length)).run Tryz.prog u = .ok (.slice (some ⟨u.heap.size, 0, none⟩) H.length H.length) (u.alloc (.cells (madeCells #[.nilIface] (H.length * 1)) 115)) := by
    intro u
    have := run_make (P := Tryz.prog) u 116 115 i0 .nilIface Tryz.underlying116 hi hz0 .i64 .i64 H.length H.length (by omega) (by omega) (by rw [hz2]; omega) (by omega)
    rw [hz1] at this
    have e : (Value.nilIface).cells = #[.nilIface] := rfl
    rw [e] at this
    simpa using this
  have st0 := (Blk.nil w).push rfl #[.nilIface, .slice none 0 0] 118
  go_enter Tryz.func55, Tryz.ntmps55
  go_wp2_with (go_at_call 63; refine JR.StopM.out ?_)
  refine ⟨?_⟩
  have hob1 := (st0.hb.block ob (lt_of_some hob)).trans hob
  refine (ringK_c K hK2 l h ob v lo hb0 _ (by simp; omega) hob1 (hv.below st0.hb)).mono ?_
  rintro e w1 ⟨ve, rfl, hve, hb⟩
  have st1 := st0.ext hb
  clear hb st0 hob1
  have x0 := st1.cell 0 rfl 0
  have x1 := st1.cell 0 rfl 1
  have xf := fun o => st1.frozen 0 rfl o
  simp only [List.getElem?_toArray, List.getElem?_cons_zero, List.getElem?_cons_succ] at x0 x1
  obtain ⟨be, rfl, hse⟩ := hve
  have hve : RngK K (w.heap.size + 1) w1.heap.size w1 (.iface 126 (.pointer (some ⟨be, 0, none⟩))) l := ⟨be, rfl, by simpa using hse⟩
  clear hse
  rcases Nat.eq_zero_or_pos H.length with h0 | h0
  · have hd : ¬ (0 : Int) < (H.length : Int) := by omega
    have hH0 : H = [] := List.eq_nil_of_length_eq_zero h0
    have hd' := decide_eq_false hd
    clear hmk hk hH hm hob hv h0
    go_wp2
    go_ret
    have p0 := st1.put (o := 0) (v := .iface 126 (.pointer (some ⟨be, 0, none⟩))) 0 rfl ⟨.inl rfl, trivial⟩ (Nat.le_refl _)
    have hn := p0.known 0 _ rfl
    have hlt := p0.lt 0 rfl
    refine ⟨w.heap.size, rfl, ⟨_, _, Nat.le_refl _, hlt, hn, ?_, ?_⟩, p0.hb⟩
    · refine (hve.keep fun k h1 h2 h3 => Below.heap_setCell _ _ _ _ (by show k ≠ w.heap.size; omega)).wide (by omega) (by simp)
    · subst hH0
      exact ⟨none, 0, rfl, fun k x hx => by simp at hx⟩
  · have hd : (0 : Int) < (H.length : Int) := by omega
    have hd' := decide_eq_true hd
    have hlt0 := st1.lt 0 rfl
    have hne0 : w.heap.size ≠ w1.heap.size := Nat.ne_of_lt hlt0
    go_wp2
    have p0 := st1.put (o := 0) (v := .iface 126 (.pointer (some ⟨be, 0, none⟩))) 0 rfl ⟨.inl rfl, trivial⟩ (Nat.le_refl _)
    have p1 := p0.put (o := 1) (v := .slice (some ⟨w1.heap.size, 0, none⟩) H.length H.length) 0 rfl ⟨.inl rfl, trivial⟩ (Nat.le_refl _)
    have p2 := p1.push (b := w1.heap.size) (by simp) (madeCells #[.nilIface] H.length) 115
    have hsz := size_madeCells #[.nilIface] H.length
    have hve2 := hve.keep (w' := ((w1.setCell ⟨w.heap.size, 0, none⟩ (.iface 126 (.pointer (some ⟨be, 0, none⟩)))).setCell ⟨w.heap.size, 1, none⟩ (.slice (some ⟨w1.heap.size, 0, none⟩) H.length H.length)).alloc (.cells (madeCells #[.nilIface] H.length) 115))
      (fun k h1 h2 h3 => (Below.heap_alloc _ _ k (by simp; omega)).trans ((Below.heap_setCell _ _ _ _ (by show k ≠ w.heap.size; omega)).trans (Below.heap_setCell _ _ _ _ (by show k ≠ w.heap.size; omega))))
    go_loopw [27] (fun i wr => ∃ k : Nat, k ≤ H.length ∧ i = .int .i64 k ∧ ∃ cs : Array Value, cs.size = H.length ∧ Blk w wr [(w1.heap.size, cs, 115), (w.heap.size, #[.iface 126 (.pointer (some ⟨be, 0, none⟩)), .slice (some ⟨w1.heap.size, 0, none⟩) H.length H.length], 118)]
      ∧ RngK K (w.heap.size + 1) w1.heap.size wr (.iface 126 (.pointer (some ⟨be, 0, none⟩))) l ∧ ∀ (j : Nat) (x : List (Int × Int)), j < k → H[j]? = some x → ∃ y, cs[j]? = some y ∧ RngK K (w1.heap.size + 1) wr.heap.size wr y x) (fun i _ => H.length - (intOf i).toNat)
    case atStart => exact ⟨0, Nat.zero_le _, rfl, _, by rw [hsz], p2, hve2, fun j x hj => absurd hj (Nat.not_lt_zero _)⟩
    case round =>
      clear p0 p1 p2 hve2 hsz x0 x1 xf st1 hve hmk
      obtain ⟨k, hkl, rfl, cs, hcs, hB, hvr, hrs⟩ := hrel
      rcases Nat.lt_or_ge k H.length with hlt | hge
      · obtain ⟨x, hx⟩ : ∃ x, H[k]? = some x := ⟨H[k], by simp [hlt]⟩
        obtain ⟨bb, y, rfl, h1, lo1, hi1, hh, gs⟩ := hk k x hx
        have okx := hH x (List.mem_of_getElem? hx)
        have hBs := hB.hb.size
        have hh1 : hi1 ≤ wr.heap.size := by omega
        have hbb := World.block_lt_of_cell? w _ h1
        simp only at hbb
        have gy := (hB.hb.cell hbb).trans h1
        have gs := gs.below hB.hb
        have go := (hB.hb.block ob (lt_of_some hob)).trans hob
        have hob' := lt_of_some hob
        have hrow := hB.known 0 _ rfl
        have hlt' : (k : Int) < (H.length : Int) := by omega
        have z1 := hB.cell 1 rfl 1
        simp only [List.getElem?_toArray, List.getElem?_cons_zero, List.getElem?_cons_succ] at z1
        have hw1 : w.heap.size < w1.heap.size := hlt0
        have hw2 := hB.lt 0 rfl
        clear hk h1 hob
        go_wp2
        refine wp_region_K [w1.heap.size] [.val (.pointer (some ⟨w.heap.size, 0, none⟩)),
            .val (.pointer (some ⟨w.heap.size, 0, none⟩)),
            .val (.pointer (some ⟨w.heap.size, 1, none⟩)),
            .val (.slice (some ⟨w1.heap.size, 0, none⟩) H.length H.length),
            .val (.int .i64 k),
            .val (.slice (some ⟨bb, 0, none⟩) H.length c),
            .val (.int .i64 k),
            .val (.pointer (some ⟨bb, k, none⟩)),
            .val (y),
            .val (.pointer (some ⟨ob, 0, none⟩)),
            .rngK K x,
            .val (.pointer (some ⟨w1.heap.size, k, none⟩)),
            .turnS w1.heap.size cs k 40 115]
          [[.ini 7], [.frm 0 30], [.frm 1 31], [.frm 2 32], [.ini 8], [.ini 1], [.ini 8], [.frm 5 35, .frm 6 36], [.frm 7 37], [.ini 2], [.frm 8 38, .frm 9 39], [.frm 3 33, .frm 4 34], [.frm 11 41, .frm 10 40, .til 12]]
          mixed (by kernel_rfl) (by kernel_rfl) (allPre_of ⟨trivial, trivial, trivial, trivial, trivial, trivial, trivial, trivial, trivial, trivial, trivial, trivial, hrow, trivial⟩)
          ⟨OpOk.quiet rfl ?_,
            OpOk.quiet rfl ?_,
            OpOk.quiet rfl ?_,
            OpOk.quiet rfl ?_,
            OpOk.quiet rfl ?_,
            OpOk.quiet rfl ?_,
            OpOk.quiet rfl ?_,
            OpOk.quiet rfl ?_,
            OpOk.quiet rfl ?_,
            OpOk.quiet rfl ?_,
            OpOk.call rfl ?_,
            OpOk.quiet rfl ?_,
            OpOk.turnS rfl rfl (lt_of_some hrow) ⟨row_still rfl, row_still rfl, row_still rfl, row_still rfl, row_still rfl, row_still rfl, row_still rfl, row_still rfl, row_still rfl, row_still rfl, row_none rfl (fun h => (nomatch h)), row_still rfl, row_self rfl, trivial⟩ (oldFree_of ⟨.inr (fun h => (nomatch h)), .inr (fun h => (nomatch h)), .inr (fun h => (nomatch h)), .inr (fun h => (nomatch h)), .inr (fun h => (nomatch h)), .inr (fun h => (nomatch h)), .inr (fun h => (nomatch h)), .inr (fun h => (nomatch h)), .inr (fun h => (nomatch h)), .inr (fun h => (nomatch h)), .inr (fun h => (nomatch h)), .inr (fun h => (nomatch h)), .inl rfl, trivial⟩) (by kernel_rfl) (by omega) ?_ (fun _ _ h => Keep.setRow h (.inr (by simp))), trivial⟩ ?_
        · intro a u _ hf
          simp [facts, Need.fact, Act.eval] at hf
          go_simp
        · intro a u _ hf
          simp [facts, Need.fact, Ent.val, Act.eval] at hf
          go_simp
        · intro a u _ hf
          simp [facts, Need.fact, Ent.val, Act.eval] at hf
          go_simp
        · intro a u hG hf
          simp [facts, Need.fact, Ent.val, Act.eval] at hf
          have hc := fun (o : Nat) => hG.cell (p := ⟨w.heap.size, o, none⟩) (by show w.heap.size < _; omega) (by simp; omega)
          have hc2 := fun (o : Nat) => hG.cell (p := ⟨bb, o, none⟩) (by show bb < _; omega) (by simp; omega)
          go_simp
        · intro a u _ hf
          simp [facts, Need.fact, Act.eval] at hf
          go_simp
        · intro a u _ hf
          simp [facts, Need.fact, Act.eval] at hf
          go_simp
        · intro a u _ hf
          simp [facts, Need.fact, Act.eval] at hf
          go_simp
        · intro a u _ hf
          simp [facts, Need.fact, Ent.val, Act.eval] at hf
          go_simp
        · intro a u hG hf
          simp [facts, Need.fact, Ent.val, Act.eval] at hf
          have hc := fun (o : Nat) => hG.cell (p := ⟨w.heap.size, o, none⟩) (by show w.heap.size < _; omega) (by simp; omega)
          have hc2 := fun (o : Nat) => hG.cell (p := ⟨bb, o, none⟩) (by show bb < _; omega) (by simp; omega)
          go_simp
        · intro a u _ hf
          simp [facts, Need.fact, Act.eval] at hf
          go_simp
        · intro a u hG hf
          simp [facts, Need.fact, Ent.val, Act.eval] at hf
          have g3 := (hG.block ob (lt_of_some go) (by simp; omega)).trans go
          have g4 := gs.keep' (fun b _ h2 h3 => hG.block b h3 (by simp; omega))
          refine ⟨_, _, by go_simp, (ringK_c K hK2 x okx ob y lo1 hi1 _ (Nat.le_trans hh1 hG.size) g3 g4).mono ?_⟩
          rintro e w' ⟨v', rfl, hr, hb⟩
          exact ⟨_, rfl, hb, hr⟩
        · intro a u _ hf
          simp [facts, Need.fact, Ent.val, Act.eval] at hf
          go_simp
        · intro a u _ hf
          obtain ⟨⟨_, _, f1⟩, ⟨_, _, f2⟩, f3, -⟩ := hf
          obtain ⟨b2, f2, -⟩ := f2
          exact ⟨f1, by rw [f2]; rfl, f3⟩
        intro u lw hw wc hK hE hI hD
        simp [allE, Ent.rngK, Ent.turnS, Ent.val] at hE
        obtain ⟨u0, u1, u2, u3, u4, u5, u6, u7, u8, u9, e10, u11, e12⟩ := hE
        simp only [allPut, Act.put, u0, u1, u2, u3, u4, u5, u6, u7, u8, u9, u11]
        clear u0 u1 u2 u3 u4 u5 u6 u7 u8 u9 u11

        simp [allPut, Act.put, Act.eval] at e12
        replace e10 : RngK K (lw 10) (hw 10) wc (u 10) x := e10
        have i10 := hI 10 (by show 10 < 13; omega)
        try simp only [List.setIfInBounds_toArray, List.set_cons_zero, List.set_cons_succ]
        generalize u 10 = y10 at *
        have hB2 := (hB.tail.keep hK (fun i x hx => by rcases i with _ | i <;> simp at hx <;> subst hx <;> simp <;> omega) (by intro z hz; simp at hz; omega)).add e12
        have hvr2 := hvr.keep (w' := wc) (fun k h1 h2 h3 => hK.block k h3 (by simp; omega))
        have hrs2 : ∀ (j : Nat) (x : List (Int × Int)), j < k + 1 → H[j]? = some x → ∃ y, (cs.setIfInBounds k y10)[j]? = some y ∧ RngK K (w1.heap.size + 1) wc.heap.size wc y x := by
          intro j x' hj hx'
          by_cases hjk : j = k
          · subst hjk
            rw [hx] at hx'
            cases hx'
            exact ⟨y10, by rw [Array.getElem?_setIfInBounds, if_pos rfl, if_pos (by omega)], e10.wide (by omega) i10.1⟩
          · obtain ⟨y', hy1, hy2⟩ := hrs j x' (by omega) hx'
            exact ⟨y', by rw [Array.getElem?_setIfInBounds_ne (by omega)]; exact hy1, (hy2.keep (fun k h1 h2 h3 => hK.block k h3 (by simp; omega))).wide (Nat.le_refl _) hK.size⟩
        clear hK hI hD e10 e12 i10 hrow gy gs go z1 hB hvr hrs hx okx hH
        go_wp2
        go_roundw
        case rel => exact ⟨k + 1, by omega, by go_num, _, by simp; exact hcs, hB2, hvr2, hrs2⟩
        case measure => simp [intOf]; omega
      · have hkk : k = H.length := by omega
        subst hkk
        have hn := hB.known 1 _ rfl
        have hlt := hB.lt 1 rfl
        have hltr := hB.lt 0 rfl
        have hcell := fun k => hB.cell 0 rfl k
        clear hk hH
        go_wp2
        go_ret
        refine ⟨w.heap.size, rfl, ⟨_, _, Nat.le_refl _, hlt, hn, hvr.wide (by omega) (by omega), ⟨_, _, rfl, fun k x hx => ?_⟩⟩, hB.hb⟩
        have hkl : k < H.length := by
          rcases Nat.lt_or_ge k H.length with h | h
          · exact h
          · rw [List.getElem?_eq_none h] at hx; cases hx
        obtain ⟨y, hy1, hy2⟩ := hrs k x hkl hx
        exact ⟨_, y, rfl, by omega, hltr, (hcell k).trans hy1, hy2.wide (by omega) (Nat.le_refl _)⟩
theorem RgsK.wide {K : Nat} {lo hi lo' hi' : Nat} {w : World} {v : Value} {H : List (List (Int × Int))} (h : RgsK K lo hi w v H) (h1 : lo' ≤ lo) (h2 : hi ≤ hi') : RgsK K lo' hi' w v H := by
  obtain ⟨A, c, hv, hk⟩ := h
  refine ⟨A, c, hv, fun k x hx => ?_⟩
  obtain ⟨b, y, g1, g5, g6, g2, g4⟩ := hk k x hx
  exact ⟨b, y, g1, by omega, by omega, g2, g4.wide h1 h2⟩
theorem PolK.wide {K : Nat} {lo hi lo' hi' : Nat} {w : World} {n : Nat} {l : List (Int × Int)} {H : List (List (Int × Int))} (h : PolK K lo hi w n l H) (h1 : lo' ≤ lo) (h2 : hi ≤ hi') : PolK K lo' hi' w n l H := by
  obtain ⟨ve, vs, g1, g2, g3, g4, g5⟩ := h
  exact ⟨ve, vs, by omega, by omega, g3, g4.wide h1 h2, g5.wide h1 h2⟩
theorem infoSp : (Tryz.prog.info? 72).map (fun i => (i.zero, i.size, i.bytes)) = some (some (.slice none 0 0), 1, 24) := by kernel_rfl
set_option maxRecDepth 100000 in
set_option maxHeartbeats 2000000 in
theorem shapedKH_c (K : Nat) (hK2 : K ≤ 2) (l : List (Int × Int)) (H : List (List (Int × Int))) (h : okK l) (hH : ∀ x ∈ H, okK x) (hm : H.length ≤ 1000) (ob : Nat) (v vh : Value) (w : World)
    (hob : w.heap[ob]? = some (.cells #[.int .u8 K, .int .i64 2] 99 (0, 0))) (hv : SlP w v l) (hh : SlH w vh H) :
    Calls Tryz.prog 23 #[.agg #[.int .i64 3, v, vh], .pointer (some ⟨ob, 0, none⟩)] w fun e w' => ∃ n : Nat, e = .returned (.iface 75 (.pointer (some ⟨n, 0, none⟩))) ∧ PolK K w.heap.size w'.heap.size w' n l H ∧ Below w.heap.size w w' := by
  obtain ⟨i0, hi, hz0, hz1, hz2⟩ := info_parts infoSp
  obtain ⟨A, c, rfl, hk⟩ := hh
  have st0 := (Blk.nil w).push rfl #[.int .i64 3, v, .slice A H.length c] 27
  have hone : v.oneCell' = true := by obtain ⟨A', c', hv', -⟩ := hv; rw [hv']; rfl
  go_enter Tryz.func23, Tryz.ntmps23
  go_wp2
  go_loopw [5, 32] (fun vo i wr => ∃ k : Nat, k ≤ H.length ∧ i = .int .i64 k ∧ ∃ xs : List Value, wr.ownsRow (w.heap.size + 1) 72 1 vo k xs ∧
    (∀ (j : Nat) (x : List (Int × Int)), j < k → H[j]? = some x → ∃ y b, xs[j]? = some y ∧ b < wr.heap.size ∧ SlQ b (b + 1) wr y x) ∧ Blk w wr [(w.heap.size, #[.int .i64 3, v, .slice A H.length c], 27)]) (fun _ i _ => H.length - (intOf i).toNat)
  case atStart => exact ⟨0, Nat.zero_le _, rfl, [], World.ownsRow_nil _ _ _ _, fun j x hj => absurd hj (Nat.not_lt_zero _), st0⟩
  case round =>
    clear st0
    obtain ⟨k, hkl, rfl, xs, hown, hqs, hB⟩ := hrel
    have hw0 := hB.lt 0 rfl
    rcases Nat.lt_or_ge k H.length with hlt | hge
    · obtain ⟨x, hx⟩ : ∃ x, H[k]? = some x := ⟨H[k], by simp [hlt]⟩
      obtain ⟨bb, off, y, rfl, h1, h2⟩ := hk k x hx
      have okx := hH x (List.mem_of_getElem? hx)
      have gy := (hB.hb.cell (World.block_lt_of_cell? w _ h1)).trans h1
      have gp := h2.below hB.hb
      have hlt' : (k : Int) < (H.length : Int) := by omega
      have hnx : ∀ x, x ∈ H → 0 < x.length := fun x hx => by have := (hH x hx).1; omega
      clear h1 h2 hk
      go_wp2_with (go_at_call 27; refine JR.StopM.out ?_)
      refine ⟨?_⟩
      refine (pts_c x (by have := okx.2.2.1; omega) y _ gp).mono ?_
      rintro e w1 ⟨v1, rfl, hq, hb⟩
      have ho2 := hown.kept (Ext.grown hb none) (own_none _)
      have hB1 := hB.ext hb
      have hs1 := hb.size
      have hltv := fun g hg => hown.lt g hg
      obtain ⟨b1, q1, q2, q3, hq1⟩ := hq.one (by have := okx.1; omega)
      obtain ⟨A1, c1, rfl⟩ := hq.len
      have hqs1 : ∀ (j : Nat) (x : List (Int × Int)), j < k → H[j]? = some x → ∃ y b, xs[j]? = some y ∧ b < wr.heap.size ∧ SlQ b (b + 1) w1 y x := by
        intro j x' hj hx'
        obtain ⟨y', b', e1, e2, e3⟩ := hqs j x' hj hx'
        exact ⟨y', b', e1, e2, e3.below hb⟩
      clear hb gp gy hq hqs
      go_wp2_with (at_builtin; refine wpList_append_own _ rfl _ _ 100 rfl (w.heap.size + 1) 72 i0 (.slice none 0 0) 1 24 Tryz.underlying100 hi hz0 hz1 hz2 rfl (by decide) _ _ _ rfl (ho2.alloc _) ⟨w1.heap.size, 0, none⟩ 1 1 [.slice A1 x.length c1] rfl rfl ?c1 ?c2 ?c3 ?c4 ?c5 ?_)
      case c1 => exact row_cells (heap_alloc_new w1 _)
      case c2 => intro u hu; simp at hu; subst hu; rfl
      case c3 => unfold maxLen; omega
      case c4 => omega
      case c5 => have := hB1.hb.size; have := hB1.lt 0 rfl; simp; omega
      intro v' w2 hown' hgrow _
      have h00 : 0 < k → ∃ A m c, xs[0]? = some (.slice A m c) := by
        intro hk0
        obtain ⟨y0, b0, e1, e2, e3⟩ := hqs1 0 (H[0]'(by omega)) hk0 (by simp)
        obtain ⟨A', c', e4⟩ := e3.len
        exact ⟨A', _, c', by rw [e1, e4]⟩
      have hxl : xs.length = k := by have := hown.1; omega
      have hgs : w1.heap.size + 1 ≤ w2.heap.size := by simpa using hgrow.size
      have hqs2 : ∀ (j : Nat) (x2 : List (Int × Int)), j < k + 1 → H[j]? = some x2 → ∃ y b, (xs ++ [Value.slice A1 x.length c1])[j]? = some y ∧ b < w2.heap.size ∧ SlQ b (b + 1) w2 y x2 := by
        intro j x' hj hx'
        by_cases hjk : j = k
        · subst hjk
          rw [hx] at hx'
          cases hx'
          refine ⟨.slice A1 x.length c1, b1, by rw [List.getElem?_append_right (by omega)]; simp [hxl], by omega, hq1.keep' fun b h1 h2 h3 => ?_⟩
          have hbb : b = b1 := by omega
          subst hbb
          exact (hgrow.block b (by simp; omega) (fun he => by have := (hltv _ he.symm).2; omega)).trans (Below.heap_alloc w1 _ b h3)
        · obtain ⟨y', b', e1, e2, e3⟩ := hqs1 j x' (by omega) hx'
          refine ⟨y', b', by rw [List.getElem?_append_left (by omega)]; exact e1, by omega, e3.keep' fun b h1 h2 h3 => ?_⟩
          have hbb : b = b' := by omega
          subst hbb
          exact (hgrow.block b (by simp; omega) (own_ne ho2 (h00 (by omega)) e3 (hnx x' (List.mem_of_getElem? hx')))).trans (Below.heap_alloc w1 _ b h3)
      have hB2 := (hB1.push rfl #[.slice A1 x.length c1] 72).tail.grown hgrow (fun i z hz => by
        rcases i with _ | i <;> simp at hz
        subst hz
        intro he
        have := (hltv _ he.symm).1
        simp at this
        omega) (fun g hg => by have := (hltv g hg).1; omega)
      clear hqs1 h00 hgrow ho2 hown hB hB1 hltv hq1
      go_wp2
      go_roundw
      case rel => exact ⟨k + 1, by omega, by go_num, _, hown', hqs2, hB2⟩
      case measure => simp [intOf]; omega
    · have hkk : k = H.length := by omega
      subst hkk
      have hol := HolQ.own hown hqs
      have sp := hv.below hB.hb
      have hobr := (hB.hb.block ob (lt_of_some hob)).trans hob
      have z1 := hB.cell 0 rfl 1
      simp only [List.getElem?_toArray, List.getElem?_cons_zero, List.getElem?_cons_succ] at z1
      clear hk hown hqs
      go_wp2_with (go_at_call 27; refine JR.StopM.out ?_)
      refine ⟨?_⟩
      refine (pts_c l (by have := h.2.2.1; omega) v _ sp).mono ?_
      rintro e w1 ⟨v1, rfl, hq, hb⟩
      have st1 := hB.ext hb
      have hol1 := hol.below hb
      have hob2 := (hb.block ob (lt_of_some hobr)).trans hobr
      clear hb hB sp hobr hol
      go_wp2_with (go_at_call 55; refine JR.StopM.out ?_)
      refine ⟨?_⟩
      have hP := newPolyKH_c K hK2 l H h hH hm ob v1 u5 _ _ w1 (Nat.le_refl _) hob2 hq hol1
      refine hP.mono ?_
      rintro e w2 ⟨n, rfl, hs, hb⟩
      have st2 := st1.ext hb
      have hsz := st1.hb.size
      clear hb hP hq st1 hob2 hol1
      go_wp2
      go_ret
      exact ⟨n, rfl, hs.wide hsz (Nat.le_refl _), st2.hb⟩
end Go.Proofs.YtdlcckkphjpeoaaGreat
set_option linter.unusedSimpArgs false
set_option linter.unusedVariables false
/-! impl.Ask of a polygon with holes and a point. -/
namespace Go.Proofs.YtdlcckkphjpeoaaGreat
open Go.RowKit PF JR
/-- what a polygon says of a point -/
def polHas (l : List (Int × Int)) (H : List (List (Int × Int))) (p : Int × Int) : Bool := ringHas l p true && !orN (fun k => ringHas (H.getD k []) p false) H.length
theorem polHas_c (K : Nat) (hK : K ≤ 2) (l : List (Int × Int)) (H : List (List (Int × Int))) (h : okK l) (hH : ∀ x ∈ H, okK x) (hm : H.length ≤ 1000) (p : Int × Int) (hpb : Bnd p)
    (hray : ∀ x, (x = l ∨ x ∈ H) → ∀ k, k < nSeg true x → RayAt x p k) (n lo : Nat) (w : World) (hP : PolK K lo w.heap.size w n l H) (u : World) (hu : Below w.heap.size w u) :
    Calls Tryz.prog 129 #[.pointer (some ⟨n, 0, none⟩), .agg #[fl (fb p.1), fl (fb p.2)]] u fun e w' => e = .returned (.bool (polHas l H p)) ∧ Below u.heap.size u w' := by
  obtain ⟨ve, vs, g1, g2, hn, ⟨be, rfl, hse⟩, ⟨A, c, rfl, hk⟩⟩ := hP
  have hs := hu.size
  refine polyCPH_c n (fb p.1) (fb p.2) _ ⟨_, rfl⟩ (ringHas l p true) A H.length c hm (fun k => ringHas (H.getD k []) p false) u ((hu.block n (lt_of_some hn)).trans hn) (fun y hy => ?_) (fun k hkl => ?_)
  · exact polyRing_c true K hK l h.2.2.1 h.1 h.2.2.2 p hpb (hray l (.inl rfl)) 103 lo be w hse y (hu.trans (hy.mono hs))
  · have hx : H[k]? = some (H.getD k []) := by rw [List.getD_eq_getElem?_getD, List.getElem?_eq_getElem hkl]; rfl
    obtain ⟨b, y, rfl, -, -, hc, bx, rfl, hsx⟩ := hk k _ hx
    have okx := hH _ (List.mem_of_getElem? hx)
    refine ⟨b, _, rfl, (hu.cell (World.block_lt_of_cell? w _ hc)).trans hc, fun y hy => ?_⟩
    exact polyRing_c false K hK _ okx.2.2.1 okx.1 okx.2.2.2 p hpb (hray _ (.inr (List.mem_of_getElem? hx))) 103 lo bx w hsx y (hu.trans (hy.mono hs))
set_option maxRecDepth 100000 in
set_option maxHeartbeats 4000000 in
theorem askPtH_c (K : Nat) (hK : K ≤ 2) (l : List (Int × Int)) (H : List (List (Int × Int))) (h : okK l) (hH : ∀ x ∈ H, okK x) (hm : H.length ≤ 1000) (p : Int × Int) (hpb : Bnd p)
    (hray : ∀ x, (x = l ∨ x ∈ H) → ∀ k, k < nSeg true x → RayAt x p k) (v vh vp vq : Value) (w : World) (hv : SlP w v l) (hvh : SlH w vh H) (hvp : SlP w vp [p]) (hvq : SlH w vq []) :
    Calls Tryz.prog 11 #[.agg #[.int .i64 3, v, vh], .agg #[.int .i64 0, vp, vq], .int .i64 K, .int .i64 2] w fun e w' => e = .returned (.tuple #[.bool (polHas l H p), .bool (polHas l H p)]) ∧ Below w.heap.size w w' := by
  obtain ⟨A3, c3, hvv⟩ : ∃ A c, vh = .slice A H.length c := by obtain ⟨A, c, h, -⟩ := hvh; exact ⟨A, c, h⟩
  obtain ⟨A4, c4, hvw⟩ : ∃ A c, vq = .slice A 0 c := by obtain ⟨A, c, h, -⟩ := hvq; exact ⟨A, c, h⟩
  subst hvv hvw
  clear hvq
  have st0 := ((Blk.nil w).push rfl #[.int .i64 3, v, .slice A3 H.length c3] 27).push (b := w.heap.size + 1) (by simp) #[.int .i64 0, vp, .slice A4 0 c4] 27
  have sv0 := hv.below st0.hb
  have sp0 := hvp.below st0.hb
  have sh0 := hvh.below st0.hb
  obtain ⟨A0, c0, rfl⟩ : ∃ A c, v = .slice A l.length c := by obtain ⟨A, c, h, -⟩ := hv; exact ⟨A, c, h⟩
  obtain ⟨A1, c1, rfl⟩ : ∃ A c, vp = .slice A 1 c := by obtain ⟨A, c, h, -⟩ := hvp; exact ⟨A, c, h⟩
  clear hv hvp hvh
  go_enter Tryz.func11, Tryz.ntmps11
  go_wp2_with (go_at_call 22; refine JR.StopM.out ?_)
  refine ⟨?_⟩
  refine (index2_c K hK _).mono ?_
  rintro e w1 ⟨rfl, hw1⟩
  have st1 := st0.push (b := w.heap.size + 1 + 1) (by simp) #[.int .u8 K, .int .i64 2] 99
  have hb01 : Below ((w.alloc (.cells #[.int .i64 3, .slice A0 l.length c0, .slice A3 H.length c3] 27)).alloc (.cells #[.int .i64 0, .slice A1 1 c1, .slice A4 0 c4] 27)).heap.size ((w.alloc (.cells #[.int .i64 3, .slice A0 l.length c0, .slice A3 H.length c3] 27)).alloc (.cells #[.int .i64 0, .slice A1 1 c1, .slice A4 0 c4] 27)) w1 := by
    rw [hw1]; exact (Below.refl _ _).alloc (Nat.le_refl _) _
  rw [← hw1] at st1
  have sv1 := sv0.below hb01
  have sp1 := sp0.below hb01
  have sh1 := sh0.below hb01
  have x0 := st1.cell 2 rfl 0
  have x1 := st1.cell 2 rfl 1
  have x2 := st1.cell 2 rfl 2
  simp only [List.getElem?_toArray, List.getElem?_cons_zero, List.getElem?_cons_succ] at x0 x1 x2
  clear hb01 hw1 st0 sv0 sp0 sh0
  go_wp2_with (go_at_call 23; refine JR.StopM.out ?_)
  refine ⟨?_⟩
  refine (shapedKH_c K hK l H h hH hm (w.heap.size + 1 + 1) (.slice A0 l.length c0) (.slice A3 H.length c3) w1 (st1.known 0 _ rfl) sv1 sh1).mono ?_
  rintro e w2 ⟨n, rfl, hP, hb⟩
  have hcpw := fun u (hu : Below w2.heap.size w2 u) => polHas_c K hK l H h hH hm p hpb hray n w1.heap.size w2 hP u hu
  clear hP
  have st2 := (st1.ext hb)
  have sp2 := sp1.below hb
  clear hb st1 sv1 sp1 sh1 x0 x1 x2
  have x0 := st2.cell 1 rfl 0
  have x1 := st2.cell 1 rfl 1
  have x2 := st2.cell 1 rfl 2
  simp only [List.getElem?_toArray, List.getElem?_cons_zero, List.getElem?_cons_succ] at x0 x1 x2
  go_wp2_with (go_at_call 25; refine JR.StopM.out ?_)
  refine ⟨?_⟩
  refine (cornerK_c 0 [p] 0 p rfl (by simp) _ _ w2 sp2).mono ?_
  rintro e w3 ⟨rfl, hb3⟩
  have st3 := st2.ext hb3
  go_wp2_with (go_at_call 28; refine JR.StopM.out ?_)
  refine ⟨?_⟩
  refine (pt_c p.1 p.2 w3).mono ?_
  rintro e w4 ⟨rfl, hb4⟩
  have hb24 := hb3.trans (hb4.mono hb3.size)
  have st4 := (st3.ext hb4).push rfl #[fl (fb p.1), fl (fb p.2)] 64
  have hb25 := hb24.alloc hb24.size (.cells #[fl (fb p.1), fl (fb p.2)] 64)
  clear st3 hb3 hb4 hb24 x0 x1 x2 sp2 hray
  obtain ⟨r, hr⟩ : ∃ r, polHas l H p = r := ⟨_, rfl⟩
  simp only [hr] at hcpw
  go_wp2
  generalize hW5 : w4.alloc (.cells #[fl (fb p.1), fl (fb p.2)] 64) = W5 at *
  have hcp := fun u (h : Below W5.heap.size W5 u) => hcpw u (hb25.trans (h.mono hb25.size))
  have hip := fun u (h : Below W5.heap.size W5 u) => polyIP_c n (fb p.1) (fb p.2) r u (fun y hy => hcp y (h.trans (hy.mono h.size)))
  refine wp_region_K [] [.val (.iface 75 (.pointer (some ⟨n, 0, none⟩))), .val (.agg #[fl (fb p.1), fl (fb p.2)]), .val (.bool r), .val (.iface 75 (.pointer (some ⟨n, 0, none⟩))), .val (.agg #[fl (fb p.1), fl (fb p.2)]), .val (.bool r), .val (.bool r), .val (.bool r)]
    [[.ini 11], [.ini 15], [.frm 0 66, .frm 1 67], [.ini 11], [.ini 15], [.frm 3 69, .frm 4 70], [.frm 2 68], [.frm 5 71]]
    mixed (by kernel_rfl) (by kernel_rfl) (allPre_of ⟨trivial, trivial, trivial, trivial, trivial, trivial, trivial, trivial, trivial⟩)
    ⟨OpOk.quiet rfl ?_, OpOk.quiet rfl ?_, OpOk.call rfl ?_, OpOk.quiet rfl ?_, OpOk.quiet rfl ?_, OpOk.call rfl ?_, OpOk.quiet rfl ?_, OpOk.quiet rfl ?_, trivial⟩ ?_
  · intro a u _ hf
    simp [facts, Need.fact, Act.eval] at hf
    go_simp
  · intro a u hG hf
    simp [facts, Need.fact, Act.eval] at hf
    have stu := st4.keep hG (fun i x _ => by simp) (fun x hx => by simp at hx)
    have y0 := stu.cell 0 rfl 0
    have y1 := stu.cell 0 rfl 1
    simp only [List.getElem?_toArray, List.getElem?_cons_zero, List.getElem?_cons_succ] at y0 y1
    go_simp
  · intro a u hG hf
    simp [facts, Need.fact, Ent.val, Act.eval] at hf
    refine ⟨129, #[.pointer (some ⟨n, 0, none⟩), .agg #[fl (fb p.1), fl (fb p.2)]], by go_simp; kernel_rfl, (hcp u hG.below).mono ?_⟩
    rintro e w' ⟨rfl, hb⟩
    exact ⟨_, rfl, hb, rfl⟩
  · intro a u _ hf
    simp [facts, Need.fact, Act.eval] at hf
    go_simp
  · intro a u hG hf
    simp [facts, Need.fact, Act.eval] at hf
    have stu := st4.keep hG (fun i x _ => by simp) (fun x hx => by simp at hx)
    have y0 := stu.cell 0 rfl 0
    have y1 := stu.cell 0 rfl 1
    simp only [List.getElem?_toArray, List.getElem?_cons_zero, List.getElem?_cons_succ] at y0 y1
    go_simp
  · intro a u hG hf
    simp [facts, Need.fact, Ent.val, Act.eval] at hf
    refine ⟨127, #[.pointer (some ⟨n, 0, none⟩), .agg #[fl (fb p.1), fl (fb p.2)]], by go_simp; kernel_rfl, (hip u hG.below).mono ?_⟩
    rintro e w' ⟨rfl, hb⟩
    exact ⟨_, rfl, hb, rfl⟩
  · intro a u _ hf
    simp [facts, Need.fact, Ent.val, Act.eval] at hf
    go_simp
  · intro a u _ hf
    simp [facts, Need.fact, Ent.val, Act.eval] at hf
    go_simp
  intro u lw hw wc hKp hE hI hD
  simp only [allE, Ent.val] at hE
  obtain ⟨u0, u1, u2, u3, u4, u5, u6, u7, -⟩ := hE
  simp only [Nat.reduceAdd] at u0 u1 u2 u3 u4 u5 u6 u7
  simp only [allPut, Act.put, Nat.reduceAdd, u0, u1, u2, u3, u4, u5, u6, u7]
  try simp only [List.setIfInBounds_toArray, List.set_cons_zero, List.set_cons_succ]
  clear hI hD u0 u1 u2 u3 u4 u5 u6 u7 hcp hip hcpw
  have stz := st4.keep hKp (fun i x _ => by simp) (fun x hx => by simp at hx)
  go_wp2
  go_ret2
  refine ⟨?_, stz.hb⟩
  rw [hr]
  rfl
end Go.Proofs.YtdlcckkphjpeoaaGreat
set_option linter.unusedSimpArgs false
set_option linter.unusedVariables false
/-! FnTurnPoint: the plain law of polygons with holes. -/
namespace Go.Proofs.YtdlcckkphjpeoaaGreat
open Go.RowKit PF JR
theorem ringHas_al {l : List (Int × Int)} {p : Int × Int} (al : Bool) (h3 : 3 ≤ l.length) : ringHas l p al = ((aon l p l.length && al) || (!aon l p l.length && xrs l p l.length)) := by
  obtain ⟨e1, e2⟩ := ring_all (p := p) h3
  unfold ringHas ppB tooS
  rw [if_neg (by simp; omega), e1, e2]
  cases h : inB (box l) p with
  | true => simp
  | false =>
    obtain ⟨g1, g2⟩ := out_box (by omega) h
    rw [g1, g2]; simp
theorem ringHas_map {f : Int × Int → Int × Int} (hf : PF.Good f) {l : List (Int × Int)} {p : Int × Int} (al : Bool) (h3 : 3 ≤ l.length) : ringHas (l.map f) (f p) al = ringHas l p al := by
  rw [ringHas_al al h3, ringHas_al al (by simpa using h3), List.length_map]
  obtain ⟨h1, h2⟩ := hf l p (by omega)
  rw [h1]
  cases h : aon l p l.length with
  | true => simp
  | false => rw [h2 h]
theorem orN_congr {f g : Nat → Bool} : ∀ {n : Nat}, (∀ k, k < n → f k = g k) → orN f n = orN g n := by
  intro n
  induction n with
  | zero => intro _; rfl
  | succ n ih => intro h; rw [orN, orN, ih (fun k hk => h k (by omega)), h n (by omega)]
theorem polHas_map {f : Int × Int → Int × Int} (hf : PF.Good f) {l : List (Int × Int)} {H : List (List (Int × Int))} {p : Int × Int} (h3 : 3 ≤ l.length) (hH : ∀ x ∈ H, 3 ≤ x.length) : polHas (l.map f) (H.map fun x => x.map f) (f p) = polHas l H p := by
  unfold polHas
  rw [ringHas_map hf true h3, List.length_map]
  refine congrArg (fun b => ringHas l p true && !b) (orN_congr fun k hk => ?_)
  have e : (H.map fun x => x.map f).getD k [] = (H.getD k []).map f := by
    simp [List.getD_eq_getElem?_getD, List.getElem?_eq_getElem hk]
  rw [e]
  refine ringHas_map hf false (hH _ ?_)
  rw [List.getD_eq_getElem?_getD, List.getElem?_eq_getElem hk]
  exact List.getElem_mem hk
end Go.Proofs.YtdlcckkphjpeoaaGreat
set_option linter.unusedSimpArgs false
set_option linter.unusedVariables false
/-! varyShape of every kind but the rectangle: results with block ranges. -/
namespace PF
open Go Go.RowKit JR
theorem SlR.keep' {l h : Nat} {w w' : World} {v : Value} {L : List (Int × Int)} (hk : ∀ b, l ≤ b → b < h → b < w.heap.size → w'.heap[b]? = w.heap[b]?) (H : SlR l h w v L) : SlR l h w' v L := by
  obtain ⟨A, c, hv, hh⟩ := H
  refine ⟨A, c, hv, fun k p hp => ?_⟩
  obtain ⟨b, h1, h4, h5, h2, h3⟩ := hh k p hp
  have hb := World.block_lt_of_cell? w _ h2
  exact ⟨b, h1, h4, h5, (World.cell?_of_block (hk b h4 h5 hb)).trans h2, (World.cell?_of_block (hk b h4 h5 hb)).trans h3⟩
theorem SlR.len {l h : Nat} {w : World} {v : Value} {L : List (Int × Int)} (H : SlR l h w v L) : ∃ A c, v = .slice A L.length c := by
  obtain ⟨A, c, hv, _⟩ := H
  exact ⟨A, c, hv⟩
theorem SlR.one {lo h : Nat} {u : World} {v : Value} {l : List (Int × Int)} (H : SlR lo h u v l) (hne : 0 < l.length) : ∃ b, lo ≤ b ∧ b < h ∧ b < u.heap.size ∧ SlR b (b + 1) u v l := by
  obtain ⟨A, c, hv, hk⟩ := H
  obtain ⟨b, hA, h1, h2, h3, -⟩ := hk 0 (l[0]) (by simp [hne])
  refine ⟨b, h1, h2, World.block_lt_of_cell? u _ h3, A, c, hv, fun k p hp => ?_⟩
  obtain ⟨b', hA', -, -, g1, g2⟩ := hk k p hp
  rw [hA] at hA'
  cases hA'
  exact ⟨b, hA, Nat.le_refl _, by omega, g1, g2⟩
theorem own_neR {w : World} {base n : Nat} {T : TypeId} {v : Value} {xs : List Value} {b : Nat} {x : Value} {l : List (Int × Int)} (H : w.ownsRow base T 1 v n xs) (h0 : ∃ A m c, xs[0]? = some (.slice A m c))
    (hs : SlR b (b + 1) w x l) (hne : 0 < l.length) : some b ≠ v.ownBlock := by
  intro he
  obtain ⟨A, m, c, h0⟩ := h0
  have h1 := H.cells he.symm _ _ h0
  obtain ⟨A', c', hv, hk⟩ := hs
  obtain ⟨b', hA', g1, g2, g3, -⟩ := hk 0 (l[0]) (by simp [hne])
  have hb : b' = b := by omega
  subst hb
  have e : (⟨b', 0, none⟩ : Addr).add 0 = ⟨b', 0 + 0 * 2, none⟩ := by unfold Addr.add; split <;> simp_all
  rw [e, g3] at h1
  cases h1
theorem SlH.own {w : World} {base : Nat} {T : TypeId} {v : Value} {xs : List Value} {H : List (List (Int × Int))} (hown : w.ownsRow base T 1 v H.length xs)
    (hqs : ∀ (j : Nat) (x : List (Int × Int)), j < H.length → H[j]? = some x → ∃ y, xs[j]? = some y ∧ SlP w y x) : SlH w v H := by
  rcases id hown.2 with ⟨rfl, h0⟩ | ⟨g, cap, cur, rfl, _⟩
  · have : H = [] := List.eq_nil_of_length_eq_zero h0
    subst this
    exact ⟨none, 0, rfl, fun k p hp => by simp at hp⟩
  · refine ⟨_, _, rfl, fun k x hx => ?_⟩
    have hkl : k < H.length := by
      rcases Nat.lt_or_ge k H.length with h | h
      · exact h
      · rw [List.getElem?_eq_none h] at hx; cases hx
    obtain ⟨y, e1, e3⟩ := hqs k x hkl hx
    have a1 := hown.cells (g := g) rfl _ _ e1
    have e : (⟨g, 0, none⟩ : Addr).add k = ⟨g, 0 + k, none⟩ := by unfold Addr.add; split <;> simp_all
    rw [e] at a1
    exact ⟨g, 0, y, rfl, a1, e3⟩
/-- a slice of slices of points, all of it in blocks from number lo up to hi -/
def SlHR (lo hi : Nat) (w : World) (v : Value) (H : List (List (Int × Int))) : Prop :=
  ∃ A c, v = .slice A H.length c ∧ ∀ k h, H[k]? = some h → ∃ b y, A = some ⟨b, 0, none⟩ ∧ lo ≤ b ∧ b < hi ∧ w.cell? ⟨b, 0 + k, none⟩ = some y ∧ SlR lo hi w y h
theorem SlHR.h {lo hi : Nat} {w : World} {v : Value} {H : List (List (Int × Int))} (h : SlHR lo hi w v H) : SlH w v H := by
  obtain ⟨A, c, hv, hk⟩ := h
  refine ⟨A, c, hv, fun k x hx => ?_⟩
  obtain ⟨b, y, h1, -, -, h2, h3⟩ := hk k x hx
  exact ⟨b, 0, y, h1, h2, h3.p⟩
theorem SlHR.keep {lo hi : Nat} {w w' : World} {v : Value} {H : List (List (Int × Int))} (hb : ∀ b, lo ≤ b → b < hi → w'.heap[b]? = w.heap[b]?) (h : SlHR lo hi w v H) : SlHR lo hi w' v H := by
  obtain ⟨A, c, hv, hk⟩ := h
  refine ⟨A, c, hv, fun k x hx => ?_⟩
  obtain ⟨b, y, h1, h4, h5, h2, h3⟩ := hk k x hx
  exact ⟨b, y, h1, h4, h5, (World.cell?_of_block (hb b h4 h5)).trans h2, h3.keep hb⟩
theorem SlHR.own {w : World} {base lo hi : Nat} {T : TypeId} {v : Value} {xs : List Value} {H : List (List (Int × Int))} (hown : w.ownsRow base T 1 v H.length xs) (h1 : lo ≤ base) (h2 : w.heap.size ≤ hi)
    (hqs : ∀ (j : Nat) (x : List (Int × Int)), j < H.length → H[j]? = some x → ∃ y, xs[j]? = some y ∧ SlR lo hi w y x) : SlHR lo hi w v H := by
  have hlt := fun g hg => hown.lt g hg
  rcases id hown.2 with ⟨rfl, h0⟩ | ⟨g, cap, cur, rfl, _⟩
  · have : H = [] := List.eq_nil_of_length_eq_zero h0
    subst this
    exact ⟨none, 0, rfl, fun k p hp => by simp at hp⟩
  · refine ⟨_, _, rfl, fun k x hx => ?_⟩
    have hkl : k < H.length := by
      rcases Nat.lt_or_ge k H.length with h | h
      · exact h
      · rw [List.getElem?_eq_none h] at hx; cases hx
    obtain ⟨y, e1, e3⟩ := hqs k x hkl hx
    have a1 := hown.cells (g := g) rfl _ _ e1
    have e : (⟨g, 0, none⟩ : Addr).add k = ⟨g, 0 + k, none⟩ := by unfold Addr.add; split <;> simp_all
    rw [e] at a1
    have hg := hlt g rfl
    exact ⟨g, y, rfl, by omega, by omega, a1, e3⟩
end PF
namespace Go.Proofs.YtdlcckkphjpeoaaGreat
open Go.RowKit PF JR
def VsR (K : Int) (l : List (Int × Int)) (H : List (List (Int × Int))) (w : World) (e : Ending) (w' : World) : Prop :=
  ∃ v' vh', e = .returned (.agg #[.int .i64 K, v', vh']) ∧ SlR w.heap.size w'.heap.size w' v' l ∧ SlHR w.heap.size w'.heap.size w' vh' H ∧ Below w.heap.size w w'
theorem infoPs : (Tryz.prog.info? 24).map (fun i => (i.zero, i.size, i.bytes)) = some (some (.slice none 0 0), 1, 24) := by kernel_rfl
theorem okP_bnd {l : List (Int × Int)} (h : l.all okP = true) : ∀ p ∈ l, -65536 ≤ p.1 ∧ p.1 ≤ 65536 ∧ -65536 ≤ p.2 ∧ p.2 ≤ 65536 := by
  intro p hp
  have := List.all_eq_true.1 h p hp
  simp [okP] at this
  omega

set_option maxRecDepth 100000 in
set_option maxHeartbeats 4000000 in
theorem varyShapeR_c (KK S DX DY : Int) (b0 : 0 ≤ KK ∧ KK ≤ 7) (b2 : 1 ≤ S ∧ S ≤ 8) (b3 : -65536 ≤ DX ∧ DX ≤ 65536 ∧ -65536 ≤ DY ∧ DY ≤ 65536) (K : Int) (l : List (Int × Int)) (H : List (List (Int × Int))) (hV : VaryS K l H) (hK1 : K ≠ 1)
    (v vh : Value) (w : World) (hv : SlP w v l) (hh : SlH w vh H) :
    Calls Tryz.prog 12 #[.agg #[.int .u8 KK, .int .i64 S, .int .i64 DX, .int .i64 DY], .agg #[.int .i64 K, v, vh]] w (VsR K (l.map (tpt KK S DX DY)) (H.map (fun x => x.map (tpt KK S DX DY))) w) := by
  obtain ⟨hok, hH3, hHn, hHs, hK⟩ := hV
  have hl0 : 0 < l.length := by
    rcases hK with ⟨-, h⟩ | ⟨-, a, b, c, d, h, -⟩ | ⟨-, h, -⟩ | ⟨-, h, -⟩
    · omega
    · rw [h]; simp
    · omega
    · omega
  have hl12 : l.length ≤ 12 := by
    rcases hK with ⟨-, h⟩ | ⟨-, a, b, c, d, h, -⟩ | ⟨-, -, h⟩ | ⟨-, -, h⟩
    · omega
    · rw [h]; simp
    · omega
    · omega
  have hbl := okP_bnd hok
  obtain ⟨A, c, rfl, hk⟩ := hh
  obtain ⟨i0, hi, hz0, hz1, hz2⟩ := info_parts infoPs
  have st0 := (((Blk.nil w).push rfl #[.int .u8 KK, .int .i64 S, .int .i64 DX, .int .i64 DY] 23).push (b := w.heap.size + 1) (by simp) #[.int .i64 K, v, .slice A H.length c] 27).push (b := w.heap.size + 1 + 1) (by simp) #[.int .i64 0, .slice none 0 0, .slice none 0 0] 27
  have s0 := hv.below st0.hb
  obtain ⟨Av, cv, hvv⟩ := hv.len
  subst hvv
  have c0 := st0.cell 1 rfl 0
  have c1 := st0.cell 1 rfl 1
  have c2 := st0.cell 1 rfl 2
  have q0 := st0.cell 2 rfl 0
  have q1 := st0.cell 2 rfl 1
  have q2 := st0.cell 2 rfl 2
  have q3 := st0.cell 2 rfl 3
  simp only [List.getElem?_toArray, List.getElem?_cons_zero, List.getElem?_cons_succ] at c0 c1 c2 q0 q1 q2 q3
  have hsz0 := st0.hb.size
  go_enter Tryz.func12, Tryz.ntmps12
  go_wp2
  refine wp_region_K [] [.val (.pointer (some ⟨w.heap.size + 1, 0, none⟩)),
      .val (.int .i64 K),
      .val (.agg #[.int .u8 KK, .int .i64 S, .int .i64 DX, .int .i64 DY]),
      .val (.pointer (some ⟨w.heap.size + 1, 1, none⟩)),
      .val (.slice Av l.length cv),
      .slr (l.map (tpt KK S DX DY)),
      .fnS 14 (fun x => .agg #[.int .i64 K, x, .slice none 0 0]),
      .made 27 3,
      .filledS 5 14 (fun x => #[.int .i64 K, x, .slice none 0 0]) 27]
    [[.ini 3], [.frm 0 9], [.ini 2], [.ini 3], [.frm 3 12], [.frm 2 11, .frm 4 13], [.frm 1 10, .frm 5 14], [], [.frm 7 5, .frm 6 15, .frm 5 14]]
    mixed (by kernel_rfl) (by kernel_rfl) (allPre_of ⟨trivial, trivial, trivial, trivial, trivial, trivial, trivial, trivial, trivial, trivial⟩)
    ⟨OpOk.quiet rfl ?_,
      OpOk.quiet rfl ?_,
      OpOk.quiet rfl ?_,
      OpOk.quiet rfl ?_,
      OpOk.quiet rfl ?_,
      OpOk.call rfl ?_,
      OpOk.fnS rfl ?_,
      OpOk.made (cs := #[.int .i64 0, .slice none 0 0, .slice none 0 0]) rfl rfl ?_,
      OpOk.fillS (k := 7) rfl (by kernel_rfl) (by kernel_rfl) rfl (oldLt_of ⟨(fun _ h => (nomatch h)), (fun _ h => (nomatch h)), (fun _ h => (nomatch h)), (fun _ h => (nomatch h)), (fun _ h => (nomatch h)), (fun _ h => (nomatch h)), (fun _ h => (nomatch h)), (fun _ h => (nomatch h)), (fun _ h => (nomatch h)), trivial⟩) ⟨rowB_none rfl rfl, rowB_none rfl rfl, rowB_none rfl rfl, rowB_none rfl rfl, rowB_none rfl rfl, rowB_none rfl rfl, rowB_fnS, rowB_self (.inr rfl), rowB_self (.inl rfl), trivial⟩ (fun a w hf => hf.1) ?_ (fun _ _ _ h hb => Keep.setRow h (.inl hb)), trivial⟩ ?_
  · intro a u _ hf
    simp [facts, Need.fact, Act.eval] at hf
    go_simp
  · intro a u hG hf
    simp [facts, Need.fact, Ent.val, Act.eval] at hf
    have hc := True.intro
    have y0 := (hG.cell (p := ⟨w.heap.size + 1, 0, none⟩) (st0.lt 1 rfl) (by simp)).trans c0
    have y1 := (hG.cell (p := ⟨w.heap.size + 1, 1, none⟩) (st0.lt 1 rfl) (by simp)).trans c1
    have y2 := (hG.cell (p := ⟨w.heap.size + 1, 2, none⟩) (st0.lt 1 rfl) (by simp)).trans c2
    have z0 := (hG.cell (p := ⟨w.heap.size, 0, none⟩) (st0.lt 2 rfl) (by simp)).trans q0
    have z1 := (hG.cell (p := ⟨w.heap.size, 1, none⟩) (st0.lt 2 rfl) (by simp)).trans q1
    have z2 := (hG.cell (p := ⟨w.heap.size, 2, none⟩) (st0.lt 2 rfl) (by simp)).trans q2
    have z3 := (hG.cell (p := ⟨w.heap.size, 3, none⟩) (st0.lt 2 rfl) (by simp)).trans q3

    go_simp
  · intro a u hG hf
    simp [facts, Need.fact, Act.eval] at hf
    have hc := True.intro
    have y0 := (hG.cell (p := ⟨w.heap.size + 1, 0, none⟩) (st0.lt 1 rfl) (by simp)).trans c0
    have y1 := (hG.cell (p := ⟨w.heap.size + 1, 1, none⟩) (st0.lt 1 rfl) (by simp)).trans c1
    have y2 := (hG.cell (p := ⟨w.heap.size + 1, 2, none⟩) (st0.lt 1 rfl) (by simp)).trans c2
    have z0 := (hG.cell (p := ⟨w.heap.size, 0, none⟩) (st0.lt 2 rfl) (by simp)).trans q0
    have z1 := (hG.cell (p := ⟨w.heap.size, 1, none⟩) (st0.lt 2 rfl) (by simp)).trans q1
    have z2 := (hG.cell (p := ⟨w.heap.size, 2, none⟩) (st0.lt 2 rfl) (by simp)).trans q2
    have z3 := (hG.cell (p := ⟨w.heap.size, 3, none⟩) (st0.lt 2 rfl) (by simp)).trans q3

    go_simp
  · intro a u _ hf
    simp [facts, Need.fact, Act.eval] at hf
    go_simp
  · intro a u hG hf
    simp [facts, Need.fact, Ent.val, Act.eval] at hf
    have hc := True.intro
    have y0 := (hG.cell (p := ⟨w.heap.size + 1, 0, none⟩) (st0.lt 1 rfl) (by simp)).trans c0
    have y1 := (hG.cell (p := ⟨w.heap.size + 1, 1, none⟩) (st0.lt 1 rfl) (by simp)).trans c1
    have y2 := (hG.cell (p := ⟨w.heap.size + 1, 2, none⟩) (st0.lt 1 rfl) (by simp)).trans c2
    have z0 := (hG.cell (p := ⟨w.heap.size, 0, none⟩) (st0.lt 2 rfl) (by simp)).trans q0
    have z1 := (hG.cell (p := ⟨w.heap.size, 1, none⟩) (st0.lt 2 rfl) (by simp)).trans q1
    have z2 := (hG.cell (p := ⟨w.heap.size, 2, none⟩) (st0.lt 2 rfl) (by simp)).trans q2
    have z3 := (hG.cell (p := ⟨w.heap.size, 3, none⟩) (st0.lt 2 rfl) (by simp)).trans q3

    go_simp
  · intro a u hG hf
    simp [facts, Need.fact, Ent.val, Act.eval] at hf
    have s1 := s0.below (Keep.below hG)
    refine ⟨_, _, by go_simp, (varyTurned_n KK S DX DY b0 b2 b3 l hbl (by omega) _ _ s1).mono ?_⟩
    rintro e w' ⟨v', rfl, hr, hb⟩
    exact ⟨_, rfl, hb, hr⟩
  · intro a u _ hf
    obtain ⟨⟨_, _, f1⟩, ⟨_, _, f2⟩, -⟩ := hf
    obtain ⟨A9, c9, f3⟩ := SlR.len f2
    have f1' : a.eval (.tmp 10) = .int .i64 K := f1
    simp [Act.eval] at f1' f3
    go_simp
  · intro a u _ _
    go_simp
  · intro a u b old hG hf hp hb hs
    obtain ⟨-, ⟨_, _, f2⟩, ⟨_, _, f3⟩, -⟩ := hf
    obtain ⟨A9, c9, f4⟩ := SlR.len f3
    exact ⟨run_store_row _ _ _ rfl b _ hp f2 _ old hb (by kernel_rfl) (by simpa using hs) (by rw [f4]; simp [Value.oneCell']), rfl⟩
  intro u lw hw wc hKp hE hI hD
  simp [allE, Ent.filledS, Ent.fnS, Ent.made, Ent.slr, Ent.val] at hE
  obtain ⟨u0, u1, u2, u3, u4, u5, u6, ⟨b7, u7, l7, h7, -⟩, u8⟩ := hE
  simp only [allPut, Act.put, u0, u1, u2, u3, u4, u7]
  clear u0 u1 u2 u3 u4
  simp [allPut, Act.put, Act.eval] at u6 u8
  replace u5 : SlR (lw 5) (hw 5) wc (u 5) (l.map (tpt KK S DX DY)) := u5
  obtain ⟨b8, e8, g8⟩ := u8
  rw [u7] at e8
  obtain rfl : b7 = b8 := by simpa using e8
  clear e8 u7
  have i5 := hI 5 (by show 5 < 9; omega)
  have i7 := hI 7 (by show 7 < 9; omega)
  have d57 := hD 5 7 (by show 5 < 9; omega) (by show 7 < 9; omega) (by omega)
  obtain ⟨b5, j1, j2, j3, r5⟩ := u5.one (by simp; exact hl0)
  have st1 := (st0.keep hKp (fun i x _ => by simp) (fun x hx => by simp at hx)).add g8
  have hwc := st0.hb.size
  have hb7 : w.heap.size + 3 ≤ b7 := by have := i7.2; simp at this; omega
  have hb5 : w.heap.size + 3 ≤ b5 := by have := i5.2; simp at this; omega
  have hb57 : b5 ≠ b7 := by omega
  have hb7w : b7 < wc.heap.size := st1.lt 0 rfl
  obtain ⟨A5, c5, hy5⟩ := r5.len
  rw [hy5] at u6 r5 g8 st1
  rw [u6, hy5]
  clear u5 u6 hy5 hKp hI hD g8 i5 i7 d57 j1 j2 c0 c1 c2 q0 q1 q2 q3 s0 st0 l7 h7
  simp only [List.length_map] at r5 st1
  have m2 := st1.cell 2 rfl 2
  simp only [List.getElem?_toArray, List.getElem?_cons_zero, List.getElem?_cons_succ] at m2
  simp only [List.length_map]
  try simp only [List.setIfInBounds_toArray, List.set_cons_zero, List.set_cons_succ]
  go_wp2
  obtain ⟨Bs, hBs⟩ : ∃ x, wc.heap.size = x := ⟨_, rfl⟩
  go_loopw [19] (fun i wr => ∃ k : Nat, k ≤ H.length ∧ i = .int .i64 k ∧ ∃ (vo : Value) (xs : List Value), wr.ownsRow Bs 24 1 vo k xs ∧
    (∀ (j : Nat) (x : List (Int × Int)), j < k → H[j]? = some x → ∃ y b, xs[j]? = some y ∧ Bs ≤ b ∧ b < wr.heap.size ∧ SlR b (b + 1) wr y (x.map (tpt KK S DX DY))) ∧
    SlR b5 (b5 + 1) wr (.slice A5 l.length c5) (l.map (tpt KK S DX DY)) ∧ Bs ≤ wr.heap.size ∧ Blk w wr ((b7, #[.int .i64 K, .slice A5 l.length c5, vo], 27) :: [(w.heap.size + 1 + 1, #[.int .i64 0, .slice none 0 0, .slice none 0 0], 27), (w.heap.size + 1, #[.int .i64 K, .slice Av l.length cv, .slice A H.length c], 27), (w.heap.size, #[.int .u8 KK, .int .i64 S, .int .i64 DX, .int .i64 DY], 23)])) (fun i _ => H.length - (intOf i).toNat)
  case atStart => exact ⟨0, Nat.zero_le _, rfl, .slice none 0 0, [], World.ownsRow_nil _ _ _ _, fun j x hj => absurd hj (Nat.not_lt_zero _), r5, Nat.le_of_eq hBs.symm, st1⟩
  case round =>
    clear r5 st1 m2
    obtain ⟨k, hkl, rfl, vo, xs, hown, hqs, hr5, hBr, hB⟩ := hrel
    rcases Nat.lt_or_ge k H.length with hlt | hge
    · obtain ⟨x, hx⟩ : ∃ x, H[k]? = some x := ⟨H[k], by simp [hlt]⟩
      obtain ⟨bb, off, y, rfl, h1, h2⟩ := hk k x hx
      obtain ⟨Ay, cy, hyy⟩ := h2.len
      subst hyy
      have hxs := hHs x (List.mem_of_getElem? hx)
      have hbx := okP_bnd hxs.2.2
      have hxl : x.length ≤ 8 := hxs.2.1
      have hxl0 : 0 < x.length := by omega
      have hlt' : (k : Int) < (H.length : Int) := by omega
      have gy := (hB.hb.cell (World.block_lt_of_cell? w _ h1)).trans h1
      have hfg := fun g (hg : vo.ownBlock = some g) => hown.lt g hg
      have hrow := hB.known 0 _ rfl
      have hb7r : b7 < wr.heap.size := hB.lt 0 rfl
      have hwr := hB.hb.size
      have hnb : b7 ∉ vo.ownBlock.toList := by intro hm; simp at hm; have := (hfg _ hm).1; omega
      have hnx : w.heap.size ∉ b7 :: vo.ownBlock.toList := by intro hm; simp at hm; rcases hm with hm | hm; omega; have := (hfg _ hm).1; omega
      have hX : ∀ z ∈ b7 :: vo.ownBlock.toList, w.heap.size ≤ z := by intro z hm; simp at hm; rcases hm with hm | hm; omega; have := (hfg _ hm).1; omega
      have q0 := hB.cell 3 rfl 0
      have q1 := hB.cell 3 rfl 1
      have q2 := hB.cell 3 rfl 2
      have q3 := hB.cell 3 rfl 3
      simp only [List.getElem?_toArray, List.getElem?_cons_zero, List.getElem?_cons_succ] at q0 q1 q2 q3
      have hk3 : H.length ≤ 3 := hH3
      have hHp : ∀ x ∈ H, 3 ≤ x.length := fun x hx => (hHs x hx).1
      clear h1 hk hHs hxs
      go_wp2
      refine wp_region_K (b7 :: vo.ownBlock.toList) [.val (.pointer (some ⟨b7, 2, none⟩)),
          .val vo,
          .val (.agg #[.int .u8 KK, .int .i64 S, .int .i64 DX, .int .i64 DY]),
          .val (.slice Ay x.length cy),
          .slr (x.map (tpt KK S DX DY)),
          .slcS 24 27,
          .appS vo k xs Bs 24 27,
          .val (.pointer (some ⟨b7, 2, none⟩)),
          .turnS b7 #[.int .i64 K, .slice A5 l.length c5, vo] 2 29 27]
        [[.ini 5], [.frm 0 23, .til 8], [.ini 2], [.ini 7], [.frm 2 25, .frm 3 26], [.frm 4 27], [.frm 1 24, .frm 5 28, .til 6, .frm 4 27], [.ini 5], [.frm 7 30, .frm 6 29, .til 8]]
        mixed (by kernel_rfl) (by kernel_rfl) (allPre_of ⟨trivial, trivial, trivial, trivial, trivial, trivial, hown, trivial, hrow, trivial⟩)
        ⟨OpOk.quiet rfl ?_,
          OpOk.quiet rfl ?_,
          OpOk.quiet rfl ?_,
          OpOk.quiet rfl ?_,
          OpOk.call rfl ?_,
          OpOk.slcS rfl ?_,
          OpOk.appS (inf := i0) rfl rfl Tryz.underlying25 hi hz0 hz1 hz2 rfl (by unfold maxLen; omega) (by omega) hBr (fun _ hG => hG.size) (fun b hb => (hfg b hb).2) (fun b hb => ⟨row_still rfl, row_still rfl, row_still rfl, row_still rfl, row_none rfl (fun h => (nomatch h)), row_slcS, row_self rfl, row_still rfl, row_turnS (by have := (hfg b hb).1; omega), trivial⟩) (fun b hb => oldFree_of ⟨.inr (fun h => (nomatch h)), .inr (fun h => (nomatch h)), .inr (fun h => (nomatch h)), .inr (fun h => (nomatch h)), .inr (fun h => (nomatch h)), .inr (fun h => (nomatch h)), .inl rfl, .inr (fun h => (nomatch h)), .inr (by have := (hfg b hb).1; simp [Ent.turnS]; omega), trivial⟩) ?_ (fun _ b _ hb h => Keep.setRow h (.inr (by simp [hb]))),
          OpOk.quiet rfl ?_,
          OpOk.turnS rfl rfl (lt_of_some hrow) ⟨row_still rfl, row_still rfl, row_still rfl, row_still rfl, row_none rfl (fun h => (nomatch h)), row_slcS, row_appS hnb, row_still rfl, row_self rfl, trivial⟩ (oldFree_of ⟨.inr (fun h => (nomatch h)), .inr (fun h => (nomatch h)), .inr (fun h => (nomatch h)), .inr (fun h => (nomatch h)), .inr (fun h => (nomatch h)), .inr (fun h => (nomatch h)), .inr hnb, .inr (fun h => (nomatch h)), .inl rfl, trivial⟩) (by kernel_rfl) (by simp) ?_ (fun _ _ h => Keep.setRow h (.inr (by simp))), trivial⟩ ?_
      · intro a u _ hf
        simp [facts, Need.fact, Act.eval] at hf
        go_simp
      · intro a u _ hf
        obtain ⟨⟨_, _, f1⟩, f2, -⟩ := hf
        have f1' : a.eval (.tmp 23) = .pointer (some ⟨b7, 2, none⟩) := f1
        have c11 := cellAt (show u.heap[b7]? = some (.cells #[.int .i64 K, .slice A5 l.length c5, vo] 27 (0, 0)) from f2) 2
        simp only [List.getElem?_toArray, List.getElem?_cons_zero, List.getElem?_cons_succ] at c11
        clear f1 f2
        simp [Act.eval] at f1'
        go_simp
      · intro a u hG hf
        simp [facts, Need.fact, Act.eval] at hf
        have hc := True.intro
        have z0 := (hG.cell (p := ⟨w.heap.size, 0, none⟩) (hB.lt 3 rfl) hnx).trans q0
        have z1 := (hG.cell (p := ⟨w.heap.size, 1, none⟩) (hB.lt 3 rfl) hnx).trans q1
        have z2 := (hG.cell (p := ⟨w.heap.size, 2, none⟩) (hB.lt 3 rfl) hnx).trans q2
        have z3 := (hG.cell (p := ⟨w.heap.size, 3, none⟩) (hB.lt 3 rfl) hnx).trans q3

        go_simp
      · intro a u _ hf
        simp [facts, Need.fact, Act.eval] at hf
        go_simp
      · intro a u hG hf
        simp [facts, Need.fact, Ent.val, Act.eval] at hf
        have s1 := h2.below (Keep.belowX hG hB.hb hB.hb.size hX)
        refine ⟨_, _, by go_simp, (varyTurned_n KK S DX DY b0 b2 b3 x hbx (by omega) _ _ s1).mono ?_⟩
        rintro e w' ⟨v', rfl, hr, hb⟩
        exact ⟨_, rfl, hb, hr⟩
      · intro a u _ hf
        obtain ⟨⟨_, _, f2⟩, -⟩ := hf
        obtain ⟨A9, c9, f3⟩ := SlR.len f2
        simp [Act.eval] at f3
        go_simp
      · intro a u _ hf
        obtain ⟨⟨_, _, f1⟩, ⟨_, _, b, f2, _, _, f3⟩, f4, ⟨_, _, f5⟩, -⟩ := hf
        obtain ⟨A9, c9, f6⟩ := SlR.len f5
        exact ⟨f1, f4, by rw [f6]; rfl, b, f2, f3⟩
      · intro a u _ hf
        simp [facts, Need.fact, Act.eval] at hf
        go_simp
      · intro a u _ hf
        obtain ⟨⟨_, _, f1⟩, ⟨_, _, f2, f5⟩, f4, -⟩ := hf
        exact ⟨f1, own_one f2, f4⟩
      intro u lw hw wc2 hKp hE hI hD
      simp [allE, Ent.appS, Ent.slcS, Ent.slr, Ent.turnS, Ent.val] at hE
      obtain ⟨u0, u1, u2, u3, u4, -, u6, u7, e8⟩ := hE
      simp only [allPut, Act.put, u0, u2, u3, u7]
      clear u0 u2 u3 u7

      simp [allPut, Act.put, Act.eval] at e8
      replace u4 : SlR (lw 4) (hw 4) wc2 (u 4) (x.map (tpt KK S DX DY)) := u4
      obtain ⟨o6, -⟩ := u6
      simp [allPut, Act.put, Act.eval] at o6
      have i4 := hI 4 (by show 4 < 9; omega)
      have hBe := Keep.belowX hKp hB.hb hB.hb.size hX
      have hxsl : xs.length = k := by have := hown.1; omega
      have h00 : 0 < k → ∃ A m c, xs[0]? = some (.slice A m c) := by
        intro hk0
        obtain ⟨y0, b0, e1, e2, e3, e4⟩ := hqs 0 (H[0]'(by omega)) hk0 (by simp)
        obtain ⟨A', c', e4⟩ := e4.len
        exact ⟨A', _, c', by rw [e1, e4]⟩
      have hqs2 : ∀ (j : Nat) (x2 : List (Int × Int)), j < k + 1 → H[j]? = some x2 → ∃ y b, (xs ++ [u 4])[j]? = some y ∧ Bs ≤ b ∧ b < wc2.heap.size ∧ SlR b (b + 1) wc2 y (x2.map (tpt KK S DX DY)) := by
        intro j x2 hj hx2
        by_cases hjk : j = k
        · subst hjk
          rw [hx] at hx2
          cases hx2
          obtain ⟨b1, j1, j2, j3, r1⟩ := u4.one (by simp; exact hxl0)
          exact ⟨u 4, b1, by rw [List.getElem?_append_right (by omega)]; simp [hxsl], by have := i4.2; omega, j3, r1⟩
        · obtain ⟨y', b', e1, e2, e3, e4⟩ := hqs j x2 (by omega) hx2
          have hx20 : 0 < x2.length := by
            have := hHp x2 (List.mem_of_getElem? hx2); omega
          have hne := own_neR hown (h00 (by omega)) e4 (by simp; exact hx20)
          refine ⟨y', b', by rw [List.getElem?_append_left (by omega)]; exact e1, e2, Nat.lt_of_lt_of_le e3 hKp.size, e4.keep' fun b h1 h2 h3 => ?_⟩
          have hbb : b = b' := by omega
          subst hbb
          exact hKp.block b h3 (by
            intro hm
            simp at hm
            rcases hm with hm | hm
            · omega
            · exact hne hm.symm)
      have hr52 := hr5.keep' (w' := wc2) fun b h1 h2 h3 => hKp.block b h3 (by
        intro hm
        simp at hm
        rcases hm with hm | hm
        · omega
        · have := (hfg _ hm).1; omega)
      have hB2 := (hB.tail.keep hKp (fun i z hz => by
        intro hm
        simp at hm
        rcases i with _ | _ | _ | i <;> simp at hz <;> subst hz <;> simp at hm <;> (rcases hm with hm | hm; omega; have := (hfg _ hm).1; omega)) (fun z hz => hX z hz)).add e8
      have hBs2 : Bs ≤ wc2.heap.size := Nat.le_trans hBr hKp.size
      try simp only [List.setIfInBounds_toArray, List.set_cons_zero, List.set_cons_succ]
      simp only [u1]
      generalize u 6 = y6 at *
      generalize u 5 = y5 at *
      generalize u 4 = y4 at *
      clear hKp hI hD e8 u1 u4 i4 hBe hqs hr5 hB hown hrow q0 q1 q2 q3 gy h2 h00 hnb hnx hX hfg hx hbx
      go_wp2
      go_roundw
      case rel => exact ⟨k + 1, by omega, by go_num, _, _, o6, hqs2, hr52, hBs2, hB2⟩
      case measure => simp [intOf]; omega
    · have hkk : k = H.length := by omega
      subst hkk
      have hol := SlH.own (H := H.map (fun x => x.map (tpt KK S DX DY))) (by simpa using hown) (fun j x hj hx => by
        simp at hx hj
        obtain ⟨x0, hx0, rfl⟩ := hx
        obtain ⟨y, b, e1, -, -, e2⟩ := hqs j x0 hj hx0
        exact ⟨y, e1, e2.p⟩)
      have m0 := hB.cell 2 rfl 0
      have m1 := hB.cell 2 rfl 1
      have n0 := hB.cell 0 rfl 0
      have n1 := hB.cell 0 rfl 1
      have n2 := hB.cell 0 rfl 2
      have fn := fun o => hB.frozen 0 rfl o
      have ff := fun o => hB.frozen 1 rfl o
      simp only [List.getElem?_toArray, List.getElem?_cons_zero, List.getElem?_cons_succ] at m0 m1 n0 n1 n2
      have p0 := hB.cell 1 rfl 0
      have p1 := hB.cell 1 rfl 1
      have p2 := hB.cell 1 rfl 2
      simp only [List.getElem?_toArray, List.getElem?_cons_zero, List.getElem?_cons_succ] at p0 p1 p2
      obtain ⟨Ao, co, hvo⟩ : ∃ A c, vo = .slice A H.length c := by
        obtain ⟨A, c, h1, -⟩ := id hol
        exact ⟨A, c, by simpa using h1⟩
      subst hvo
      have hne1 : w.heap.size + 1 + 1 ≠ b7 := by omega
      have hap : ∀ q r : Array Value, apart (w.heap.size + 1 + 1) 1 0 ((b7, q, 27) :: (w.heap.size + 1 + 1, r, 27) :: [(w.heap.size + 1, #[.int .i64 K, .slice Av l.length cv, .slice A H.length c], 27), (w.heap.size, #[.int .u8 KK, .int .i64 S, .int .i64 DX, .int .i64 DY], 23)]) := fun q r => ⟨.inr (by show _ ≠ _; omega), .inl rfl, .inr (by show _ ≠ _; omega), .inr (by show _ ≠ _; omega), trivial⟩
      clear hk hHs hol
      have hK1b : (K == 1) = false := beq_eq_false_iff_ne.2 hK1
      have st2 := ((hB.put 1 (o := 0) (v := .int .i64 K) rfl (hap _ _) (by omega)).put 1 (o := 1) (v := .slice A5 l.length c5) rfl (hap _ _) (by omega)).put 1 (o := 2) (v := .slice Ao H.length co) rfl (hap _ _) (by omega)
      have hgr : wr.grownBy (((wr.setCell ⟨w.heap.size + 1 + 1, 0, none⟩ (.int .i64 K)).setCell ⟨w.heap.size + 1 + 1, 1, none⟩ (.slice A5 l.length c5)).setCell ⟨w.heap.size + 1 + 1, 2, none⟩ (.slice Ao H.length co)) (some (w.heap.size + 1 + 1)) :=
        ⟨rfl, rfl, rfl, by simp, fun k hk hne => (Below.heap_setCell _ _ _ _ (fun h => hne (by rw [h]))).trans ((Below.heap_setCell _ _ _ _ (fun h => hne (by rw [h]))).trans (Below.heap_setCell _ _ _ _ (fun h => hne (by rw [h]))))⟩
      have hown2 := hown.kept hgr (.inr (fun h => by have := (hown.lt _ h).1; omega))
      have sp2 := (hr5.keep' (w' := (((wr.setCell ⟨w.heap.size + 1 + 1, 0, none⟩ (.int .i64 K)).setCell ⟨w.heap.size + 1 + 1, 1, none⟩ (.slice A5 l.length c5)).setCell ⟨w.heap.size + 1 + 1, 2, none⟩ (.slice Ao H.length co))) (fun b h1 h2 h3 => hgr.block b h3 (by simp; omega))).wide (l' := w.heap.size) (h' := ((((wr.setCell ⟨w.heap.size + 1 + 1, 0, none⟩ (.int .i64 K)).setCell ⟨w.heap.size + 1 + 1, 1, none⟩ (.slice A5 l.length c5)).setCell ⟨w.heap.size + 1 + 1, 2, none⟩ (.slice Ao H.length co))).heap.size) (by omega) (by simp; omega)
      have hol2 := SlHR.own (lo := w.heap.size) (hi := ((((wr.setCell ⟨w.heap.size + 1 + 1, 0, none⟩ (.int .i64 K)).setCell ⟨w.heap.size + 1 + 1, 1, none⟩ (.slice A5 l.length c5)).setCell ⟨w.heap.size + 1 + 1, 2, none⟩ (.slice Ao H.length co))).heap.size) (H := H.map (fun x => x.map (tpt KK S DX DY))) (by simpa using hown2) (by omega) (Nat.le_refl _) (fun j x hj hx => by
        simp at hx hj
        obtain ⟨x0, hx0, rfl⟩ := hx
        obtain ⟨y, b, e1, e3, e4, e2⟩ := hqs j x0 hj hx0
        exact ⟨y, e1, (e2.keep' (fun b h1 h2 h3 => hgr.block b h3 (by simp; omega))).wide (by omega) (by simp; omega)⟩)
      clear hgr hown2 hqs hr5 hown hB hap
      go_wp2
      have t0 := st2.cell 1 rfl 0
      have t1 := st2.cell 1 rfl 1
      have t2 := st2.cell 1 rfl 2
      simp at t0 t1 t2
      exact bodyPost_ret (v := .agg #[.int .i64 K, .slice A5 l.length c5, .slice Ao H.length co]) (by simp [results, Tryz.results12, go_sem, t0, t1, t2]) rfl ⟨_, _, rfl, by simpa using sp2, by simpa using hol2, by simpa using st2.hb⟩
end Go.Proofs.YtdlcckkphjpeoaaGreat
