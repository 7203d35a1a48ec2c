import Derived.Test.YtbfanhdofopnnaaGreatPlane
import Derived.Test.YtbfanhdofopnnaaGreatQV
set_option linter.unusedSimpArgs false
set_option linter.unusedVariables false
/-! Turned, scaled and moved: plain facts. -/
namespace PF
section
variable {Ax Ay Bx By Px Py : Int}
theorem cross_swap : (Px - Bx) * (Ay - By) - (Py - By) * (Ax - Bx) = (Py - Ay) * (Bx - Ax) - (Px - Ax) * (By - Ay) := by
  have := down_slope (Ax := Ax) (Ay := Ay) (Bx := Bx) (By := By) (Px := Px) (Py := Py)
  rw [Int.mul_comm (Px - Bx), Int.mul_comm (Px - Ax)]; exact this
theorem rcOn_swap : rcOn Bx By Ax Ay Px Py = rcOn Ax Ay Bx By Px Py := by
  have h := cross_swap (Ax := Ax) (Ay := Ay) (Bx := Bx) (By := By) (Px := Px) (Py := Py)
  unfold rcOn
  apply decide_eq_decide.2
  constructor <;> (rintro ⟨h1, h2, h3⟩; exact ⟨by omega, by omega, by omega⟩)
theorem rcIn_swap : rcIn Bx By Ax Ay Px Py = rcIn Ax Ay Bx By Px Py := by
  have h := down_slope (Ax := Ax) (Ay := Ay) (Bx := Bx) (By := By) (Px := Px) (Py := Py)
  unfold rcIn
  apply decide_eq_decide.2
  constructor <;> (rintro (⟨h1, h2, h3⟩ | ⟨h1, h2, h3⟩); exact .inr ⟨by omega, by omega, by omega⟩; exact .inl ⟨by omega, by omega, by omega⟩)
theorem rcOn_neg : rcOn (-Ax) Ay (-Bx) By (-Px) Py = rcOn Ax Ay Bx By Px Py := by
  unfold rcOn
  apply decide_eq_decide.2
  have e1 : (-Px - -Ax) * (By - Ay) = -((Px - Ax) * (By - Ay)) := by rw [← Int.neg_mul]; congr 1; omega
  have e2 : (Py - Ay) * (-Bx - -Ax) = -((Py - Ay) * (Bx - Ax)) := by rw [← Int.mul_neg]; congr 1; omega
  rw [e1, e2]
  constructor <;> (rintro ⟨h1, h2, h3⟩; exact ⟨by omega, by omega, by omega⟩)
theorem rcOn_rot : rcOn (-Ay) Ax (-By) Bx (-Py) Px = rcOn Ax Ay Bx By Px Py := by
  unfold rcOn
  apply decide_eq_decide.2
  have e1 : (-Py - -Ay) * (Bx - Ax) = -((Py - Ay) * (Bx - Ax)) := by rw [← Int.neg_mul]; congr 1; omega
  have e2 : (Px - Ax) * (-By - -Ay) = -((Px - Ax) * (By - Ay)) := by rw [← Int.mul_neg]; congr 1; omega
  rw [e1, e2]
  constructor <;> (rintro ⟨h1, h2, h3⟩; exact ⟨by omega, by omega, by omega⟩)
theorem sm_sub (a b s d : Int) : (a * s + d) - (b * s + d) = (a - b) * s := by rw [Int.sub_mul]; omega
theorem sm_le {a b s : Int} (d : Int) (hs : 0 < s) : a * s + d ≤ b * s + d ↔ a ≤ b := by
  constructor
  · intro h
    exact Int.le_of_mul_le_mul_right (by omega) hs
  · intro h
    have := Int.mul_le_mul_of_nonneg_right h (Int.le_of_lt hs)
    omega
theorem sm_lt {a b s : Int} (d : Int) (hs : 0 < s) : a * s + d < b * s + d ↔ a < b := by
  have := sm_le (a := b) (b := a) d hs
  omega
theorem sm_mul (a b s : Int) : (a * s) * (b * s) = (a * b) * (s * s) := by
  rw [Int.mul_assoc, Int.mul_assoc]; congr 1; rw [← Int.mul_assoc, ← Int.mul_assoc, Int.mul_comm s b]
theorem rcOn_sm (s dx dy : Int) (hs : 0 < s) : rcOn (Ax * s + dx) (Ay * s + dy) (Bx * s + dx) (By * s + dy) (Px * s + dx) (Py * s + dy) = rcOn Ax Ay Bx By Px Py := by
  have hss : 0 < s * s := Int.mul_pos hs hs
  unfold rcOn
  apply decide_eq_decide.2
  simp only [sm_sub, sm_le _ hs]
  rw [sm_mul (Px - Ax), sm_mul (Py - Ay)]
  constructor
  · rintro ⟨h1, h2⟩; exact ⟨Int.eq_of_mul_eq_mul_right (by omega) h1, h2⟩
  · rintro ⟨h1, h2⟩; exact ⟨by rw [h1], h2⟩
theorem rcIn_sm (s dx dy : Int) (hs : 0 < s) : rcIn (Ax * s + dx) (Ay * s + dy) (Bx * s + dx) (By * s + dy) (Px * s + dx) (Py * s + dy) = rcIn Ax Ay Bx By Px Py := by
  have hss : 0 < s * s := Int.mul_pos hs hs
  have hl : ∀ a b : Int, a * (s * s) < b * (s * s) ↔ a < b := fun a b => ⟨fun h => Int.lt_of_mul_lt_mul_right h (Int.le_of_lt hss), fun h => Int.mul_lt_mul_of_pos_right h hss⟩
  unfold rcIn
  apply decide_eq_decide.2
  simp only [sm_sub, sm_le _ hs, sm_lt _ hs]
  rw [sm_mul (By - Ay), sm_mul (Py - Ay), hl, hl]
end
theorem rcOn_rotN : ∀ (n : Nat) (a b p : Int × Int), rcOn (rotN n a).1 (rotN n a).2 (rotN n b).1 (rotN n b).2 (rotN n p).1 (rotN n p).2 = rcOn a.1 a.2 b.1 b.2 p.1 p.2 := by
  intro n
  induction n with
  | zero => intro a b p; rfl
  | succ n ih => intro a b p; rw [rotN, rotN, rotN, ih]; exact rcOn_rot
theorem rcOn_tpt (K S DX DY : Int) (hS : 0 < S) (a b p : Int × Int) :
    rcOn (tpt K S DX DY a).1 (tpt K S DX DY a).2 (tpt K S DX DY b).1 (tpt K S DX DY b).2 (tpt K S DX DY p).1 (tpt K S DX DY p).2 = rcOn a.1 a.2 b.1 b.2 p.1 p.2 := by
  unfold tpt
  simp only
  rw [rcOn_sm S DX DY hS, rcOn_rotN]
  split
  · exact rcOn_neg
  · rfl
theorem rcIn_tpt0 (S DX DY : Int) (hS : 0 < S) (a b p : Int × Int) :
    rcIn (tpt 0 S DX DY a).1 (tpt 0 S DX DY a).2 (tpt 0 S DX DY b).1 (tpt 0 S DX DY b).2 (tpt 0 S DX DY p).1 (tpt 0 S DX DY p).2 = rcIn a.1 a.2 b.1 b.2 p.1 p.2 := by
  exact rcIn_sm S DX DY hS
theorem tpt_bd (K S DX DY : Int) (hS : 1 ≤ S ∧ S ≤ 8) (hD : -4096 ≤ DX ∧ DX ≤ 4096 ∧ -4096 ≤ DY ∧ DY ≤ 4096) (p : Int × Int) (hp : -1024 ≤ p.1 ∧ p.1 ≤ 1024 ∧ -1024 ≤ p.2 ∧ p.2 ≤ 1024) :
    -16384 ≤ (tpt K S DX DY p).1 ∧ (tpt K S DX DY p).1 ≤ 16384 ∧ -16384 ≤ (tpt K S DX DY p).2 ∧ (tpt K S DX DY p).2 ≤ 16384 := by
  have hr : ∀ (n : Nat) (q : Int × Int), (-1024 ≤ q.1 ∧ q.1 ≤ 1024 ∧ -1024 ≤ q.2 ∧ q.2 ≤ 1024) → (-1024 ≤ (rotN n q).1 ∧ (rotN n q).1 ≤ 1024 ∧ -1024 ≤ (rotN n q).2 ∧ (rotN n q).2 ≤ 1024) := by
    intro n
    induction n with
    | zero => intro q h; exact h
    | succ n ih => intro q h; exact ih _ ⟨by show -1024 ≤ -q.2; omega, by show -q.2 ≤ 1024; omega, h.1, h.2.1⟩
  have hm : ∀ a : Int, -1024 ≤ a → a ≤ 1024 → -8192 ≤ a * S ∧ a * S ≤ 8192 := by
    intro a h1 h2
    have : (a * S).natAbs ≤ 1024 * 8 := by rw [Int.natAbs_mul]; exact Nat.mul_le_mul (by omega) (by omega)
    omega
  unfold tpt
  simp only
  have hq := hr (K % 4).toNat (if 4 ≤ K then (-p.1, p.2) else p) (by split; exact ⟨by show -1024 ≤ -p.1; omega, by show -p.1 ≤ 1024; omega, hp.2.2.1, hp.2.2.2⟩; exact hp)
  generalize rotN (K % 4).toNat (if 4 ≤ K then (-p.1, p.2) else p) = q at hq
  have m1 := hm q.1 (by omega) (by omega)
  have m2 := hm q.2 (by omega) (by omega)
  omega
end PF
