import Derived.Test.YtbfanhdofopnnaaGreatQH
set_option linter.unusedSimpArgs false
set_option linter.unusedVariables false
/-! laws.isVary: what a shape is where it answers true. -/
namespace PF
open Go Go.RowKit JR
structure Stop1 (p : Prop) : Prop where out : p
def VaryS (K : Int) (l : List (Int × Int)) (H : List (List (Int × Int))) : Prop :=
  l.all okP = true ∧ H.length ≤ 3 ∧ (K ≠ 3 → H = []) ∧ (∀ h ∈ H, 3 ≤ h.length ∧ h.length ≤ 8 ∧ h.all okP = true) ∧
  ((K = 0 ∧ l.length = 1) ∨ (K = 1 ∧ ∃ X0 Y0 X1 Y1, l = [(X0, Y0), (X1, Y1)] ∧ X0 < X1 ∧ Y0 < Y1) ∨ (K = 2 ∧ 2 ≤ l.length ∧ l.length ≤ 12) ∨ (K = 3 ∧ 3 ≤ l.length ∧ l.length ≤ 12))
def IsvP (K : Int) (l : List (Int × Int)) (H : List (List (Int × Int))) (w : World) (e : Ending) (w' : World) : Prop :=
  ∃ b : Bool, e = .returned (.bool b) ∧ (b = true → VaryS K l H) ∧ Below w.heap.size w w'
theorem IsvP.no {K : Int} {l : List (Int × Int)} {H : List (List (Int × Int))} {w w' : World} {e : Ending} (h : e = .returned (.bool false)) (hB : Below w.heap.size w w') : IsvP K l H w e w' := ⟨false, h, fun h => (nomatch h), hB⟩
theorem IsvP.yes {K : Int} {l : List (Int × Int)} {H : List (List (Int × Int))} {w w' : World} {e : Ending} (b : Bool) (h : e = .returned (.bool b)) (hV : b = true → VaryS K l H) (hB : Below w.heap.size w w') : IsvP K l H w e w' := ⟨b, h, hV, hB⟩
end PF
namespace Go.Proofs.YtbfanhdofopnnaaGreat
open Go.RowKit PF JR

end Go.Proofs.YtbfanhdofopnnaaGreat
