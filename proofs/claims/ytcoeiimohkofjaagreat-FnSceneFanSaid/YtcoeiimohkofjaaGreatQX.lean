import Derived.Test.YtcoeiimohkofjaaGreatQR
import Derived.Test.YtcoeiimohkofjaaGreatQY
import Derived.Test.YtcoeiimohkofjaaGreatQW
import Derived.Test.YtcoeiimohkofjaaGreatHp
import Derived.Test.YtcoeiimohkofjaaGreatQZ
import Derived.Test.YtcoeiimohkofjaaGreatYg
import Derived.Test.YtcoeiimohkofjaaGreatGc
set_option linter.unusedSimpArgs false
set_option linter.unusedVariables false
/-! Plain: the scene's own segments and rings (spec.GeoOn, GeoLeft, GeoMeet, RingSide), and a rectangle and a line. -/
namespace PF
theorem gsgn_neg {m n : Int} : gsgn m * gsgn n < 0 ↔ (m < 0 ∧ 0 < n) ∨ (0 < m ∧ n < 0) := by
  unfold gsgn
  split <;> split <;> (try split) <;> (try split) <;> simp <;> omega
theorem gmt_sym (a b c d : Int × Int) : gmt a b c d = gmt c d a b := by
  unfold gmt
  cases gon a b c <;> cases gon a b d <;> cases gon c d a <;> cases gon c d b <;> simp [Bool.and_comm]
end PF
namespace Go.Proofs.YtcoeiimohkofjaaGreat
open Go.RowKit PF JR
section
variable {a b c d : Int}
end
end Go.Proofs.YtcoeiimohkofjaaGreat
set_option linter.unusedSimpArgs false
set_option linter.unusedVariables false
/-! laws.sceneAwake is true. -/
namespace PF
open Go Go.RowKit JR
theorem SlP_row {w : World} {b : Nat} {l : List (Int × Int)} {T : TypeId} (h : w.heap[b]? = some (.cells (cellsP l).toArray T (0, 0))) (c : Nat) : SlP w (.slice (some ⟨b, 0, none⟩) l.length c) l := by
  refine ⟨_, c, rfl, fun k x hx => ?_⟩
  obtain ⟨h1, h2⟩ := cellsP_get l k x hx
  have z0 := cellAt h (k * 2)
  have z1 := cellAt h (k * 2 + 1)
  simp only [List.getElem?_toArray] at z0 z1
  exact ⟨b, 0, rfl, by rw [Nat.zero_add, z0, h1], by rw [Nat.zero_add, z1, h2]⟩
theorem SlH_nil (w : World) (c : Nat) (A : Option Addr) : SlH w (.slice A 0 c) [] := ⟨A, c, rfl, fun k x hx => by simp at hx⟩
end PF
namespace Go.Proofs.YtcoeiimohkofjaaGreat
open Go.RowKit PF JR
set_option maxRecDepth 100000 in
theorem awk_c (w : World) : Calls Tryz.prog 22 #[] w fun e w' => e = .returned (.bool true) ∧ Below w.heap.size w w' := by
  have st0 := ((Blk.nil w).push rfl (cellsP [(0, 0), (2, 0), (2, 2), (0, 2)]).toArray 63).push (b := w.heap.size + 1) (by simp) (cellsP [(-1, 1), (3, 1)]).toArray 63
  have h1 := SlP_row (l := [(0, 0), (2, 0), (2, 2), (0, 2)]) (st0.known 1 _ rfl) 4
  have h2 := SlP_row (l := [(-1, 1), (3, 1)]) (st0.known 0 _ rfl) 2
  have ok1 : ShOk 3 [(0, 0), (2, 0), (2, 2), (0, 2)] [] := ⟨by simp [Bn3], by simp, by simp, .inr (.inr (.inr ⟨rfl, by simp, by simp⟩))⟩
  have ok2 : ShOk 2 [(-1, 1), (3, 1)] [] := ⟨by simp [Bn3], by simp, by simp, .inr (.inr (.inl ⟨rfl, by simp, by simp⟩))⟩
  have hA := ask_sc (X := 0) (by omega) 3 _ _ ok1 2 _ _ (.inr (.inr (.inr ⟨rfl, .inr ⟨rfl, by decide⟩⟩))) ok2 _ (.slice none 0 0) _ (.slice none 0 0) _ h1 (SlH_nil _ 0 none) h2 (SlH_nil _ 0 none)
  have e1 : hdS 3 [(0, 0), (2, 0), (2, 2), (0, 2)] [] 2 [(-1, 1), (3, 1)] [] = false := by decide
  have e2 : mtV 3 [(0, 0), (2, 0), (2, 2), (0, 2)] [] 2 [(-1, 1), (3, 1)] [] = true := by decide
  rw [e1, e2] at hA
  simp only [cellsP, List.flatMap_cons, List.flatMap_nil, List.cons_append, List.nil_append] at st0 hA
  go_enter Tryz.func22, Tryz.ntmps22
  go_wp2_with (go_at_call 21; refine JR.StopY.out ?_)
  refine ⟨?_⟩
  refine hA.mono ?_
  rintro e w1 ⟨rfl, hb⟩
  have st1 := st0.ext hb
  go_wp2
  go_ret
  exact ⟨rfl, st1.hb⟩
theorem okS_b {m : List (Int × Int)} (h : m.all okS = true) : (∀ p ∈ m, Bs p) ∧ ∀ p ∈ m, Bn3 p := by
  rw [List.all_eq_true] at h
  refine ⟨fun p hp => ?_, fun p hp => ?_⟩ <;> have := of_decide_eq_true (h p hp)
  · unfold Bs; omega
  · unfold Bn3; omega
theorem isc_le {l : List (Int × Int)} {n : Int} (h : iscB l n = true) : (l.length : Int) ≤ n ∧ l.all okS = true := by
  unfold iscB at h
  rw [Bool.and_eq_true, decide_eq_true_iff] at h
  exact h
end Go.Proofs.YtcoeiimohkofjaaGreat
set_option linter.unusedSimpArgs false
set_option linter.unusedVariables false
/-! Plain: a line past a ring at a height (FnSceneCut). -/
namespace Go.Proofs.YtcoeiimohkofjaaGreat
open Go.RowKit PF JR
theorem cnt_pair {F : Nat → Bool} {i j : Nat} : ∀ {n : Nat}, i < j → j < n → F i = true → F j = true → 2 ≤ cntN F n := by
  intro n
  induction n with
  | zero => intro _ h; omega
  | succ n ih =>
    intro hij hj fi fj
    rw [cntN]
    rcases Nat.lt_or_ge j n with h | h
    · have := ih hij h fi fj
      omega
    · obtain rfl : j = n := by omega
      rw [if_pos fj]
      have h1 := cntN_le (f := F) (k := i + 1) (n := j) (by omega)
      rw [cntN, if_pos fi] at h1
      omega
/-- the step from k on goes through h -/
def stp (f g : Nat → Int) (h : Int) (k : Nat) : Bool := decide ((f k ≤ h ∧ h ≤ g k) ∨ (g k ≤ h ∧ h ≤ f k))
section
variable {N : Nat} {f g : Nat → Int} {h : Int}
theorem way (h1 : ∀ k, k + 1 < N → g k = f (k + 1)) : ∀ n p, p + (n + 1) < N → ((f p ≤ h ∧ h ≤ f (p + (n + 1))) ∨ (f (p + (n + 1)) ≤ h ∧ h ≤ f p)) → ∃ k, p ≤ k ∧ k < p + (n + 1) ∧ stp f g h k = true := by
  intro n
  induction n with
  | zero =>
    intro p hp hh
    refine ⟨p, Nat.le_refl _, by omega, ?_⟩
    unfold stp
    rw [decide_eq_true_iff, h1 p (by omega)]
    simpa using hh
  | succ n ih =>
    intro p hp hh
    by_cases hs : stp f g h p = true
    · exact ⟨p, Nat.le_refl _, by omega, hs⟩
    · unfold stp at hs
      rw [decide_eq_true_iff, h1 p (by omega)] at hs
      rw [show p + (n + 1 + 1) = p + 1 + (n + 1) from by omega] at hh hp ⊢
      obtain ⟨k, a, b, c⟩ := ih (p + 1) hp (by omega)
      exact ⟨k, by omega, b, c⟩
theorem way' (h1 : ∀ k, k + 1 < N → g k = f (k + 1)) {p q : Nat} (hpq : p < q) (hq : q < N) (hh : (f p ≤ h ∧ h ≤ f q) ∨ (f q ≤ h ∧ h ≤ f p)) : ∃ k, p ≤ k ∧ k < q ∧ stp f g h k = true := by
  obtain ⟨n, rfl⟩ : ∃ n, q = p + (n + 1) := ⟨q - p - 1, by omega⟩
  exact way h1 n p hq hh
/-- round a ring, what lies on both sides of h goes through it twice -/
theorem twice (hN : 2 ≤ N) (h1 : ∀ k, k + 1 < N → g k = f (k + 1)) (h2 : g (N - 1) = f 0) {i j : Nat} (hi : i < N) (hj : j < N) (fi : f i ≤ h) (fj : h ≤ f j) : 2 ≤ cntN (stp f g h) N := by
  have core : ∀ p q, p < q → q < N → ((f p ≤ h ∧ h ≤ f q) ∨ (f q ≤ h ∧ h ≤ f p)) → 2 ≤ cntN (stp f g h) N := by
    intro p q hpq hq hh
    obtain ⟨k, k1, k2, k3⟩ := way' h1 hpq hq hh
    have hlast : (f (N - 1) ≤ h ∧ h ≤ f 0) ∨ (f 0 ≤ h ∧ h ≤ f (N - 1)) → 2 ≤ cntN (stp f g h) N := fun e =>
      cnt_pair (show k < N - 1 by omega) (by omega) k3 (by unfold stp; rw [decide_eq_true_iff, h2]; exact e)
    by_cases hl : (f (N - 1) ≤ h ∧ h ≤ f 0) ∨ (f 0 ≤ h ∧ h ≤ f (N - 1))
    · exact hlast hl
    -- both ends lie on one side of h: one of the two ways from there goes through it
    by_cases hp : (f 0 ≤ h ∧ h ≤ f p) ∨ (f p ≤ h ∧ h ≤ f 0)
    · by_cases h0 : p = 0
      · subst h0
        have hqn : q ≠ N - 1 := fun e => by subst e; omega
        obtain ⟨k', a, b, c⟩ := way' h1 (h := h) (p := q) (q := N - 1) (by omega) (by omega) (by omega)
        exact cnt_pair (show k < k' by omega) (by omega) k3 c
      · obtain ⟨k', a, b, c⟩ := way' h1 (p := 0) (q := p) (by omega) (by omega) hp
        exact cnt_pair (show k' < k by omega) (by omega) c k3
    · have hqn : q ≠ N - 1 := fun e => by subst e; omega
      obtain ⟨k', a, b, c⟩ := way' h1 (h := h) (p := q) (q := N - 1) (by omega) (by omega) (by omega)
      exact cnt_pair (show k < k' by omega) (by omega) k3 c
  rcases Nat.lt_trichotomy i j with e | e | e
  · exact core i j e hj (.inl ⟨fi, fj⟩)
  · subst e
    rcases Nat.eq_zero_or_pos i with e | e
    · subst e
      exact core 0 1 (by omega) (by omega) (by omega)
    · exact core 0 i e hi (by omega)
  · exact core j i e hi (.inr ⟨fi, fj⟩)
end
section
variable {l : List (Int × Int)}
end
end Go.Proofs.YtcoeiimohkofjaaGreat
set_option linter.unusedSimpArgs false
set_option linter.unusedVariables false
/-! Plane geometry: two points that no edge of a ring parts are on the same side of it. -/
namespace PF
section
variable {P Q a b : Int × Int}
theorem pos_of_mul {m n : Int} (hm : 0 ≤ m) (h : 0 < m * n) : 0 < n := by
  rcases Int.lt_or_le 0 n with g | g
  · exact g
  · have := mqr hm g; omega
theorem neg_of_mul {m n : Int} (hm : 0 ≤ m) (h : m * n < 0) : n < 0 := by
  rcases Int.lt_or_le n 0 with g | g
  · exact g
  · have := mqq hm g; omega
theorem se1 : (b.2 - a.2) * gsd P Q a = (a.2 - P.2) * (gsd a b P - gsd a b Q) - (Q.2 - P.2) * gsd a b P := by unfold gsd; grind
theorem se2 : (b.2 - a.2) * gsd P Q b = (b.2 - Q.2) * (gsd a b P - gsd a b Q) - (Q.2 - P.2) * gsd a b Q := by unfold gsd; grind
theorem se3 : gsd a b P - gsd a b Q = gsd P Q b - gsd P Q a := by unfold gsd; grind
/-- the four ways in which the heights of P Q and of a b overlap -/
theorem side4 (hpq : P.2 ≤ Q.2) (hab : a.2 ≤ b.2) (h : gmt P Q a b = false) (h1 : P.2 < b.2) (h2 : a.2 ≤ Q.2) :
    (if a.2 ≤ P.2 then 0 < gsd a b P else gsd P Q a < 0) ↔ (if Q.2 < b.2 then 0 < gsd a b Q else gsd P Q b < 0) := by
  obtain ⟨g1, g2, g3, g4, g5⟩ := gmt_f h
  have i1 := se1 (P := P) (Q := Q) (a := a) (b := b)
  have i2 := se2 (P := P) (Q := Q) (a := a) (b := b)
  have i3 := se3 (P := P) (Q := Q) (a := a) (b := b)
  have z1 : a.2 < b.2 → a.2 ≤ P.2 → P.2 ≤ b.2 → gsd a b P ≠ 0 := fun h h1 h2 hz => by rw [gon_mid h hz h1 h2] at g3; cases g3
  have z2 : a.2 < b.2 → a.2 ≤ Q.2 → Q.2 ≤ b.2 → gsd a b Q ≠ 0 := fun h h1 h2 hz => by rw [gon_mid h hz h1 h2] at g4; cases g4
  have z3 : P.2 < Q.2 → P.2 ≤ a.2 → a.2 ≤ Q.2 → gsd P Q a ≠ 0 := fun h h1 h2 hz => by rw [gon_mid h hz h1 h2] at g1; cases g1
  have z4 : P.2 < Q.2 → P.2 ≤ b.2 → b.2 ≤ Q.2 → gsd P Q b ≠ 0 := fun h h1 h2 hz => by rw [gon_mid h hz h1 h2] at g2; cases g2
  -- a level P Q through a, or a level a b through Q
  have f1 : P.2 = Q.2 → a.2 = P.2 → gsd P Q a = 0 ∧ ((0 < gsd a b P ∧ gsd a b Q < 0) ∨ (gsd a b P < 0 ∧ 0 < gsd a b Q)) → a.2 < b.2 → False := by
    intro e1 e2 hz hlt
    have t1 : gsd a b P = -((b.2 - a.2) * (P.1 - a.1)) := by unfold gsd; rw [show P.2 - a.2 = 0 by omega]; omega
    have t2 : gsd a b Q = -((b.2 - a.2) * (Q.1 - a.1)) := by unfold gsd; rw [show Q.2 - a.2 = 0 by omega]; omega
    have hon : gon P Q a = true := gon_iff.2 ⟨by
      rcases hz.2 with ⟨k1, k2⟩ | ⟨k1, k2⟩
      · have := neg_of_mul (m := b.2 - a.2) (n := P.1 - a.1) (by omega) (by omega)
        have := pos_of_mul (m := b.2 - a.2) (n := Q.1 - a.1) (by omega) (by omega)
        omega
      · have := pos_of_mul (m := b.2 - a.2) (n := P.1 - a.1) (by omega) (by omega)
        have := neg_of_mul (m := b.2 - a.2) (n := Q.1 - a.1) (by omega) (by omega)
        omega, hz.1⟩
    rw [hon] at g1; cases g1
  have f2 : a.2 = b.2 → b.2 = Q.2 → gsd a b Q = 0 ∧ ((0 < gsd P Q a ∧ gsd P Q b < 0) ∨ (gsd P Q a < 0 ∧ 0 < gsd P Q b)) → P.2 < Q.2 → False := by
    intro e1 e2 hz hlt
    have t1 : gsd P Q a = -((Q.2 - P.2) * (a.1 - Q.1)) := by unfold gsd; rw [show a.2 - P.2 = Q.2 - P.2 by omega]; grind
    have t2 : gsd P Q b = -((Q.2 - P.2) * (b.1 - Q.1)) := by unfold gsd; rw [show b.2 - P.2 = Q.2 - P.2 by omega]; grind
    have hon : gon a b Q = true := gon_iff.2 ⟨by
      rcases hz.2 with ⟨k1, k2⟩ | ⟨k1, k2⟩
      · have := neg_of_mul (m := Q.2 - P.2) (n := a.1 - Q.1) (by omega) (by omega)
        have := pos_of_mul (m := Q.2 - P.2) (n := b.1 - Q.1) (by omega) (by omega)
        omega
      · have := pos_of_mul (m := Q.2 - P.2) (n := a.1 - Q.1) (by omega) (by omega)
        have := neg_of_mul (m := Q.2 - P.2) (n := b.1 - Q.1) (by omega) (by omega)
        omega, hz.1⟩
    rw [hon] at g4; cases g4
  clear g1 g2 g3 g4 h
  generalize gsd P Q a = s1 at *
  generalize gsd P Q b = s2 at *
  generalize gsd a b P = t1 at *
  generalize gsd a b Q = t2 at *
  obtain ⟨p1, p⟩ := P
  obtain ⟨q1, q⟩ := Q
  obtain ⟨a1, A⟩ := a
  obtain ⟨b1, B⟩ := b
  simp only at *
  by_cases c1 : A ≤ p
  · by_cases c2 : q < B
    · rw [if_pos c1, if_pos c2]
      have hAB : A < B := by omega
      have y1 := z1 hAB c1 (by omega)
      have y2 := z2 hAB (by omega) (by omega)
      constructor
      · intro k
        rcases Int.lt_or_le 0 t2 with k2 | k2
        · exact k2
        · exfalso
          have k2 : t2 < 0 := by omega
          have a1 := mrq (m := A - p) (n := t1 - t2) (by omega) (by omega)
          have a2 := mqq (m := q - p) (n := t1) (by omega) (by omega)
          have a3 := mpp (m := B - q) (n := t1 - t2) (by omega) (by omega)
          have a4 := mqr (m := q - p) (n := t2) (by omega) (by omega)
          have k4 : 0 < s2 := pos_of_mul (m := B - A) (by omega) (by omega)
          have k3 : s1 ≤ 0 := by
            rcases Int.lt_or_le 0 s1 with g | g
            · have := mpp (m := B - A) (n := s1) (by omega) g; omega
            · exact g
          by_cases k5 : s1 = 0
          · have a5 : (B - A) * s1 = 0 := by rw [k5, Int.mul_zero]
            have a6 : (q - p) * t1 = 0 := by omega
            have a7 : q = p := by rcases Int.mul_eq_zero.1 a6 with h | h <;> omega
            have a8 : (A - p) * (t1 - t2) = 0 := by omega
            have a9 : A = p := by rcases Int.mul_eq_zero.1 a8 with h | h <;> omega
            exact f1 a7.symm a9 ⟨k5, .inl ⟨k, k2⟩⟩ hAB
          · exact g5 ⟨.inr ⟨by omega, k4⟩, .inl ⟨k, k2⟩⟩
      · intro k
        rcases Int.lt_or_le 0 t1 with k2 | k2
        · exact k2
        · exfalso
          have k2 : t1 < 0 := by omega
          have a1 := mrr (m := A - p) (n := t1 - t2) (by omega) (by omega)
          have a2 := mqr (m := q - p) (n := t1) (by omega) (by omega)
          have a3 := mpn (m := B - q) (n := t1 - t2) (by omega) (by omega)
          have a4 := mqq (m := q - p) (n := t2) (by omega) (by omega)
          have k4 : s2 < 0 := neg_of_mul (m := B - A) (by omega) (by omega)
          have k3 : 0 ≤ s1 := by
            rcases Int.lt_or_le s1 0 with g | g
            · have := mpn (m := B - A) (n := s1) (by omega) g; omega
            · exact g
          by_cases k5 : s1 = 0
          · have a5 : (B - A) * s1 = 0 := by rw [k5, Int.mul_zero]
            have a6 : (q - p) * t1 = 0 := by omega
            have a7 : q = p := by rcases Int.mul_eq_zero.1 a6 with h | h <;> omega
            have a8 : (A - p) * (t1 - t2) = 0 := by omega
            have a9 : A = p := by rcases Int.mul_eq_zero.1 a8 with h | h <;> omega
            exact f1 a7.symm a9 ⟨k5, .inr ⟨k2, k⟩⟩ hAB
          · exact g5 ⟨.inl ⟨by omega, k4⟩, .inr ⟨k2, k⟩⟩
    · rw [if_pos c1, if_neg c2]
      have hAB : A < B := by omega
      have hpq' : p < q := by omega
      have y1 := z1 hAB c1 (by omega)
      have y2 := z4 hpq' (by omega) (by omega)
      have key : (B - p) * (t1 - t2) = (B - A) * s2 + (q - p) * t1 := by grind
      constructor
      · intro k
        rcases Int.lt_or_le s2 0 with k2 | k2
        · exact k2
        · exfalso
          have k2 : 0 < s2 := by omega
          have a1 := mpp (m := B - A) (n := s2) (by omega) k2
          have a2 := mpp (m := q - p) (n := t1) (by omega) k
          have hD := pos_of_mul (m := B - p) (n := t1 - t2) (by omega) (by omega)
          have a3 := mrq (m := A - p) (n := t1 - t2) (by omega) (by omega)
          have a4 := mrq (m := B - q) (n := t1 - t2) (by omega) (by omega)
          have k3 : s1 < 0 := neg_of_mul (m := B - A) (by omega) (by omega)
          have k4 : t2 < 0 := neg_of_mul (m := q - p) (by omega) (by omega)
          exact g5 ⟨.inr ⟨k3, k2⟩, .inl ⟨k, k4⟩⟩
      · intro k
        rcases Int.lt_or_le 0 t1 with k2 | k2
        · exact k2
        · exfalso
          have k2 : t1 < 0 := by omega
          have a1 := mpn (m := B - A) (n := s2) (by omega) k
          have a2 := mpn (m := q - p) (n := t1) (by omega) k2
          have hD := neg_of_mul (m := B - p) (n := t1 - t2) (by omega) (by omega)
          have a3 := mrr (m := A - p) (n := t1 - t2) (by omega) (by omega)
          have a4 := mrr (m := B - q) (n := t1 - t2) (by omega) (by omega)
          have k3 : 0 < s1 := pos_of_mul (m := B - A) (by omega) (by omega)
          have k4 : 0 < t2 := pos_of_mul (m := q - p) (by omega) (by omega)
          exact g5 ⟨.inl ⟨k3, k⟩, .inr ⟨k2, k4⟩⟩
  · by_cases c2 : q < B
    · rw [if_neg c1, if_pos c2]
      have hAB : A < B := by omega
      have hpq' : p < q := by omega
      have y1 := z3 hpq' (by omega) (by omega)
      have y2 := z2 hAB (by omega) (by omega)
      have key : (q - A) * (t1 - t2) = -((B - A) * s1 + (q - p) * t2) := by grind
      constructor
      · intro k
        rcases Int.lt_or_le 0 t2 with k2 | k2
        · exact k2
        · exfalso
          have k2 : t2 < 0 := by omega
          have a1 := mpn (m := B - A) (n := s1) (by omega) k
          have a2 := mpn (m := q - p) (n := t2) (by omega) k2
          have hD := pos_of_mul (m := q - A) (n := t1 - t2) (by omega) (by omega)
          have a3 := mqq (m := A - p) (n := t1 - t2) (by omega) (by omega)
          have a4 := mqq (m := B - q) (n := t1 - t2) (by omega) (by omega)
          have k3 : 0 < s2 := pos_of_mul (m := B - A) (by omega) (by omega)
          have k4 : 0 < t1 := pos_of_mul (m := q - p) (by omega) (by omega)
          exact g5 ⟨.inr ⟨k, k3⟩, .inl ⟨k4, k2⟩⟩
      · intro k
        rcases Int.lt_or_le s1 0 with k2 | k2
        · exact k2
        · exfalso
          have k2 : 0 < s1 := by omega
          have a1 := mpp (m := B - A) (n := s1) (by omega) k2
          have a2 := mpp (m := q - p) (n := t2) (by omega) k
          have hD := neg_of_mul (m := q - A) (n := t1 - t2) (by omega) (by omega)
          have a3 := mqr (m := A - p) (n := t1 - t2) (by omega) (by omega)
          have a4 := mqr (m := B - q) (n := t1 - t2) (by omega) (by omega)
          have k3 : s2 < 0 := neg_of_mul (m := B - A) (by omega) (by omega)
          have k4 : t1 < 0 := neg_of_mul (m := q - p) (by omega) (by omega)
          exact g5 ⟨.inl ⟨k2, k3⟩, .inr ⟨k4, k⟩⟩
    · rw [if_neg c1, if_neg c2]
      have hpq' : p < q := by omega
      have y1 := z3 hpq' (by omega) (by omega)
      have y2 := z4 hpq' (by omega) (by omega)
      constructor
      · intro k
        rcases Int.lt_or_le s2 0 with k2 | k2
        · exact k2
        · exfalso
          have k2 : 0 < s2 := by omega
          have a1 := mpp (m := A - p) (n := t1 - t2) (by omega) (by omega)
          have a2 := mqr (m := B - A) (n := s1) (by omega) (by omega)
          have a3 := mrq (m := B - q) (n := t1 - t2) (by omega) (by omega)
          have a4 := mqq (m := B - A) (n := s2) (by omega) (by omega)
          have k3 : 0 < t1 := pos_of_mul (m := q - p) (by omega) (by omega)
          have k4 : t2 ≤ 0 := by
            rcases Int.lt_or_le 0 t2 with g | g
            · have := mpp (m := q - p) (n := t2) (by omega) g; omega
            · exact g
          by_cases k5 : t2 = 0
          · have a5 : (q - p) * t2 = 0 := by rw [k5, Int.mul_zero]
            have a6 : (B - A) * s2 = 0 := by omega
            have a7 : B = A := by rcases Int.mul_eq_zero.1 a6 with h | h <;> omega
            have a8 : (B - q) * (t1 - t2) = 0 := by omega
            have a9 : B = q := by rcases Int.mul_eq_zero.1 a8 with h | h <;> omega
            exact f2 a7.symm a9 ⟨k5, .inr ⟨k, k2⟩⟩ hpq'
          · exact g5 ⟨.inr ⟨k, k2⟩, .inl ⟨k3, by omega⟩⟩
      · intro k
        rcases Int.lt_or_le s1 0 with k2 | k2
        · exact k2
        · exfalso
          have k2 : 0 < s1 := by omega
          have a1 := mpn (m := A - p) (n := t1 - t2) (by omega) (by omega)
          have a2 := mqq (m := B - A) (n := s1) (by omega) (by omega)
          have a3 := mrr (m := B - q) (n := t1 - t2) (by omega) (by omega)
          have a4 := mqr (m := B - A) (n := s2) (by omega) (by omega)
          have k3 : t1 < 0 := neg_of_mul (m := q - p) (by omega) (by omega)
          have k4 : 0 ≤ t2 := by
            rcases Int.lt_or_le t2 0 with g | g
            · have := mpn (m := q - p) (n := t2) (by omega) g; omega
            · exact g
          by_cases k5 : t2 = 0
          · have a5 : (q - p) * t2 = 0 := by rw [k5, Int.mul_zero]
            have a6 : (B - A) * s2 = 0 := by omega
            have a7 : B = A := by rcases Int.mul_eq_zero.1 a6 with h | h <;> omega
            have a8 : (B - q) * (t1 - t2) = 0 := by omega
            have a9 : B = q := by rcases Int.mul_eq_zero.1 a8 with h | h <;> omega
            exact f2 a7.symm a9 ⟨k5, .inl ⟨k2, k⟩⟩ hpq'
          · exact g5 ⟨.inl ⟨k2, k⟩, .inr ⟨k3, by omega⟩⟩
/-- **an edge that does not part P from Q** -/
theorem edge_keep0 (hpq : P.2 ≤ Q.2) (hab : a.2 ≤ b.2) (h : gmt P Q a b = false) : (glf a b P != glf a b Q) = (spf P Q a != spf P Q b) := by
  rw [glf_up hab, glf_up hab]
  unfold spf
  by_cases h1 : P.2 < b.2
  · by_cases h2 : a.2 ≤ Q.2
    · have key := side4 hpq hab h h1 h2
      by_cases c1 : a.2 ≤ P.2 <;> by_cases c2 : Q.2 < b.2
      · rw [if_pos c1, if_pos c2] at key
        rw [show decide (a.2 ≤ P.2 ∧ P.2 < b.2 ∧ 0 < gsd a b P) = decide (a.2 ≤ Q.2 ∧ Q.2 < b.2 ∧ 0 < gsd a b Q) from decide_eq_decide.2 (by constructor <;> intro g <;> exact ⟨by omega, by omega, by first | exact key.1 g.2.2 | exact key.2 g.2.2⟩), decide_eq_false (show ¬ (P.2 < a.2 ∧ a.2 ≤ Q.2 ∧ gsd P Q a < 0) by omega), decide_eq_false (show ¬ (P.2 < b.2 ∧ b.2 ≤ Q.2 ∧ gsd P Q b < 0) by omega)]
        simp
      · rw [if_pos c1, if_neg c2] at key
        rw [show decide (a.2 ≤ P.2 ∧ P.2 < b.2 ∧ 0 < gsd a b P) = decide (P.2 < b.2 ∧ b.2 ≤ Q.2 ∧ gsd P Q b < 0) from decide_eq_decide.2 (by constructor <;> intro g <;> exact ⟨by omega, by omega, by first | exact key.1 g.2.2 | exact key.2 g.2.2⟩), decide_eq_false (show ¬ (P.2 < a.2 ∧ a.2 ≤ Q.2 ∧ gsd P Q a < 0) by omega), decide_eq_false (show ¬ (a.2 ≤ Q.2 ∧ Q.2 < b.2 ∧ 0 < gsd a b Q) by omega)]
        simp
      · rw [if_neg c1, if_pos c2] at key
        rw [show decide (P.2 < a.2 ∧ a.2 ≤ Q.2 ∧ gsd P Q a < 0) = decide (a.2 ≤ Q.2 ∧ Q.2 < b.2 ∧ 0 < gsd a b Q) from decide_eq_decide.2 (by constructor <;> intro g <;> exact ⟨by omega, by omega, by first | exact key.1 g.2.2 | exact key.2 g.2.2⟩), decide_eq_false (show ¬ (a.2 ≤ P.2 ∧ P.2 < b.2 ∧ 0 < gsd a b P) by omega), decide_eq_false (show ¬ (P.2 < b.2 ∧ b.2 ≤ Q.2 ∧ gsd P Q b < 0) by omega)]
        simp
      · rw [if_neg c1, if_neg c2] at key
        rw [show decide (P.2 < a.2 ∧ a.2 ≤ Q.2 ∧ gsd P Q a < 0) = decide (P.2 < b.2 ∧ b.2 ≤ Q.2 ∧ gsd P Q b < 0) from decide_eq_decide.2 (by constructor <;> intro g <;> exact ⟨by omega, by omega, by first | exact key.1 g.2.2 | exact key.2 g.2.2⟩), decide_eq_false (show ¬ (a.2 ≤ P.2 ∧ P.2 < b.2 ∧ 0 < gsd a b P) by omega), decide_eq_false (show ¬ (a.2 ≤ Q.2 ∧ Q.2 < b.2 ∧ 0 < gsd a b Q) by omega)]
        simp
    · rw [decide_eq_false (show ¬ (a.2 ≤ P.2 ∧ P.2 < b.2 ∧ 0 < gsd a b P) by omega), decide_eq_false (show ¬ (a.2 ≤ Q.2 ∧ Q.2 < b.2 ∧ 0 < gsd a b Q) by omega), decide_eq_false (show ¬ (P.2 < a.2 ∧ a.2 ≤ Q.2 ∧ gsd P Q a < 0) by omega), decide_eq_false (show ¬ (P.2 < b.2 ∧ b.2 ≤ Q.2 ∧ gsd P Q b < 0) by omega)]
  · rw [decide_eq_false (show ¬ (a.2 ≤ P.2 ∧ P.2 < b.2 ∧ 0 < gsd a b P) by omega), decide_eq_false (show ¬ (a.2 ≤ Q.2 ∧ Q.2 < b.2 ∧ 0 < gsd a b Q) by omega), decide_eq_false (show ¬ (P.2 < a.2 ∧ a.2 ≤ Q.2 ∧ gsd P Q a < 0) by omega), decide_eq_false (show ¬ (P.2 < b.2 ∧ b.2 ≤ Q.2 ∧ gsd P Q b < 0) by omega)]
theorem gmt_swap2 (P Q a b : Int × Int) (h : gmt P Q a b = false) : gmt P Q b a = false := by
  have e1 := gsd_swap a b P
  have e2 := gsd_swap a b Q
  have m : ∀ p, gon b a p = gon a b p := fun p => by
    unfold gon gwi; rw [gsd_swap a b p, Int.min_comm, Int.max_comm, Int.min_comm b.2, Int.max_comm b.2, decide_eq_decide.2 (show -gsd a b p = 0 ↔ gsd a b p = 0 by omega)]
  have n : ∀ x : Int, gsgn (-x) = -gsgn x := fun x => by
    unfold gsgn
    split <;> split <;> (try split) <;> (try split) <;> omega
  unfold gmt at h ⊢
  rw [m, m, e1, e2, n, n, Int.neg_mul_neg, Int.mul_comm (gsgn (gsd P Q b)), Bool.or_comm (gon P Q b)]
  exact h
theorem edge_keep1 (hpq : P.2 ≤ Q.2) (h : gmt P Q a b = false) : (glf a b P != glf a b Q) = (spf P Q a != spf P Q b) := by
  rcases Int.le_total a.2 b.2 with g | g
  · exact edge_keep0 hpq g h
  · rw [← glf_swap a b P, ← glf_swap a b Q, edge_keep0 hpq g (gmt_swap2 _ _ _ _ h)]
    cases spf P Q a <;> cases spf P Q b <;> rfl
theorem gmt_swap1 (P Q a b : Int × Int) (h : gmt P Q a b = false) : gmt Q P a b = false := by
  have e1 := gsd_swap P Q a
  have e2 := gsd_swap P Q b
  have m : ∀ p, gon Q P p = gon P Q p := fun p => by
    unfold gon gwi; rw [gsd_swap P Q p, Int.min_comm, Int.max_comm, Int.min_comm Q.2, Int.max_comm Q.2, decide_eq_decide.2 (show -gsd P Q p = 0 ↔ gsd P Q p = 0 by omega)]
  have n : ∀ x : Int, gsgn (-x) = -gsgn x := fun x => by
    unfold gsgn
    split <;> split <;> (try split) <;> (try split) <;> omega
  unfold gmt at h ⊢
  rw [m, m, e1, e2, n, n, Int.neg_mul_neg, Int.mul_comm (gsgn (gsd a b Q)), Bool.or_assoc (gon P Q a || gon P Q b), Bool.or_comm (gon a b Q), ← Bool.or_assoc (gon P Q a || gon P Q b)]
  exact h
end
end PF
namespace Go.Proofs.YtcoeiimohkofjaaGreat
open Go.RowKit PF JR
/-- **two points that no edge of a ring parts are on the same side of it** -/
theorem ring_keep {l : List (Int × Int)} {P Q : Int × Int} (h0 : 0 < l.length) (h : ∀ k, k < l.length → gmt P Q (at' l k) (nxp l k) = false) : xrs l P l.length = xrs l Q l.length := by
  have core : ∀ P Q : Int × Int, P.2 ≤ Q.2 → (∀ k, k < l.length → gmt P Q (at' l k) (nxp l k) = false) → xrs l P l.length = xrs l Q l.length := fun P Q hpq h => by
    refine (tele (l := l) (m := l) (p := Q) (p' := P) (spf P Q) h0 fun k hk => ?_)
    have e := edge_keep1 hpq (h k hk)
    rw [glf_rc, glf_rc] at e
    show rcIn _ _ _ _ _ _ = (rcIn _ _ _ _ _ _ != _)
    rw [← e]
    cases rcIn (at' l k).1 (at' l k).2 (nxp l k).1 (nxp l k).2 P.1 P.2 <;> cases rcIn (at' l k).1 (at' l k).2 (nxp l k).1 (nxp l k).2 Q.1 Q.2 <;> rfl
  rcases Int.le_total P.2 Q.2 with g | g
  · exact core P Q g h
  · exact (core Q P g fun k hk => gmt_swap1 _ _ _ _ (h k hk)).symm
end Go.Proofs.YtcoeiimohkofjaaGreat
