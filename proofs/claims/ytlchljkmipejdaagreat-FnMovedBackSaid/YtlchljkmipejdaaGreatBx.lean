import Derived.Test.YtlchljkmipejdaaGreatNr
import Derived.Test.YtlchljkmipejdaaGreatPr
set_option linter.unusedSimpArgs false
set_option linter.unusedVariables false
/-! The least rectangle around turned points. -/
namespace PF
open Go Go.RowKit JR
theorem min_mulS {S : Int} (hS : 0 < S) (a b : Int) : (min a b) * S = min (a * S) (b * S) := by
  rcases Int.le_total a b with h | h
  · rw [Int.min_eq_left h, Int.min_eq_left (Int.mul_le_mul_of_nonneg_right h (by omega))]
  · rw [Int.min_eq_right h, Int.min_eq_right (Int.mul_le_mul_of_nonneg_right h (by omega))]
theorem max_mulS {S : Int} (hS : 0 < S) (a b : Int) : (max a b) * S = max (a * S) (b * S) := by
  rcases Int.le_total a b with h | h
  · rw [Int.max_eq_right h, Int.max_eq_right (Int.mul_le_mul_of_nonneg_right h (by omega))]
  · rw [Int.max_eq_left h, Int.max_eq_left (Int.mul_le_mul_of_nonneg_right h (by omega))]
/-- the rectangle, turned -/
def mbx (K S DX DY : Int) (b : Int × Int × Int × Int) : Int × Int × Int × Int :=
  (rx0 K S DX DY b.1 b.2.1 b.2.2.1 b.2.2.2, ry0 K S DX DY b.1 b.2.1 b.2.2.1 b.2.2.2, rx1 K S DX DY b.1 b.2.1 b.2.2.1 b.2.2.2, ry1 K S DX DY b.1 b.2.1 b.2.2.1 b.2.2.2)
theorem mbx_step {K S DX DY : Int} (hK : 0 ≤ K ∧ K ≤ 7) (hS : 0 < S) (X0 Y0 X1 Y1 x y : Int) (h1 : X0 ≤ X1) (h2 : Y0 ≤ Y1) :
    (min (mbx K S DX DY (X0, Y0, X1, Y1)).1 (tpt K S DX DY (x, y)).1, min (mbx K S DX DY (X0, Y0, X1, Y1)).2.1 (tpt K S DX DY (x, y)).2, max (mbx K S DX DY (X0, Y0, X1, Y1)).2.2.1 (tpt K S DX DY (x, y)).1, max (mbx K S DX DY (X0, Y0, X1, Y1)).2.2.2 (tpt K S DX DY (x, y)).2)
      = mbx K S DX DY (min X0 x, min Y0 y, max X1 x, max Y1 y) := by
  have g1 : X0 * S ≤ X1 * S := Int.mul_le_mul_of_nonneg_right h1 (by omega)
  have g2 : Y0 * S ≤ Y1 * S := Int.mul_le_mul_of_nonneg_right h2 (by omega)
  have e1 := min_mulS hS X0 x
  have e2 := min_mulS hS Y0 y
  have e3 := max_mulS hS X1 x
  have e4 := max_mulS hS Y1 y
  obtain ⟨k0, k7⟩ := hK
  have hk : K = 0 ∨ K = 1 ∨ K = 2 ∨ K = 3 ∨ K = 4 ∨ K = 5 ∨ K = 6 ∨ K = 7 := by omega
  simp only [mbx, rx0, ry0, rx1, ry1]
  rcases hk with rfl | rfl | rfl | rfl | rfl | rfl | rfl | rfl <;> simp only [tpt0, tpt1, tpt2, tpt3, tpt4, tpt5, tpt6, tpt7, e1, e2, e3, e4, Prod.mk.injEq] <;>
    (generalize X0 * S = p0 at *; generalize X1 * S = p1 at *; generalize Y0 * S = q0 at *; generalize Y1 * S = q1 at *; generalize x * S = px at *; generalize y * S = py at *; clear e1 e2 e3 e4; omega)
theorem bxs_turn {K S DX DY : Int} (hK : 0 ≤ K ∧ K ≤ 7) (hS : 0 < S) (l : List (Int × Int)) : ∀ b : Int × Int × Int × Int, b.1 ≤ b.2.2.1 → b.2.1 ≤ b.2.2.2 → bxs (l.map (tpt K S DX DY)) (mbx K S DX DY b) = mbx K S DX DY (bxs l b) := by
  induction l with
  | nil => intro b _ _; rfl
  | cons p l ih =>
    intro b h1 h2
    have := mbx_step (DX := DX) (DY := DY) hK hS b.1 b.2.1 b.2.2.1 b.2.2.2 p.1 p.2 h1 h2
    simp only [bxs, List.map_cons, List.foldl_cons]
    have e : bxs (l.map (tpt K S DX DY)) (mbx K S DX DY (min b.1 p.1, min b.2.1 p.2, max b.2.2.1 p.1, max b.2.2.2 p.2)) = _ := ih _ (by simp only; omega) (by simp only; omega)
    rw [← this] at e
    exact e
theorem mbx_one (K S DX DY : Int) (p : Int × Int) : mbx K S DX DY (p.1, p.2, p.1, p.2) = ((tpt K S DX DY p).1, (tpt K S DX DY p).2, (tpt K S DX DY p).1, (tpt K S DX DY p).2) := by
  simp [mbx, rx0, ry0, rx1, ry1]
theorem box_turn {K S DX DY : Int} (hK : 0 ≤ K ∧ K ≤ 7) (hS : 0 < S) (l : List (Int × Int)) (hl : 0 < l.length) : box (l.map (tpt K S DX DY)) = mbx K S DX DY (box l) := by
  have e : at' (l.map (tpt K S DX DY)) 0 = tpt K S DX DY (at' l 0) := by
    cases l with
    | nil => simp at hl
    | cons p l => rfl
  unfold box
  rw [e, ← mbx_one]
  exact bxs_turn hK hS l _ (Int.le_refl _) (Int.le_refl _)
end PF
