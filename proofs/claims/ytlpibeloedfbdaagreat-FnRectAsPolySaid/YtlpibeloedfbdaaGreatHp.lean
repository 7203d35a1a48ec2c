import Derived.Test.YtlpibeloedfbdaaGreatQH
import Derived.Test.YtlpibeloedfbdaaGreatGc
import Derived.Test.YtlpibeloedfbdaaGreatQG
set_option linter.unusedSimpArgs false
set_option linter.unusedVariables false
/-! FnTurnPoint: the plain law of polygons with holes. -/
namespace Go.Proofs.YtlpibeloedfbdaaGreat
open Go.RowKit PF JR
theorem ringHas_al {l : List (Int × Int)} {p : Int × Int} (al : Bool) (h3 : 3 ≤ l.length) : ringHas l p al = ((aon l p l.length && al) || (!aon l p l.length && xrs l p l.length)) := by
  obtain ⟨e1, e2⟩ := ring_all (p := p) h3
  unfold ringHas ppB tooS
  rw [if_neg (by simp; omega), e1, e2]
  cases h : inB (box l) p with
  | true => simp
  | false =>
    obtain ⟨g1, g2⟩ := out_box (by omega) h
    rw [g1, g2]; simp
end Go.Proofs.YtlpibeloedfbdaaGreat
