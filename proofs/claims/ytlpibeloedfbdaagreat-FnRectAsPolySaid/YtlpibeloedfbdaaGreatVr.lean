import Derived.Test.YtlpibeloedfbdaaGreatVn
import Derived.Test.YtlpibeloedfbdaaGreatRa
import Derived.Test.YtlpibeloedfbdaaGreatPr
import Derived.Test.YtlpibeloedfbdaaGreatBlk
set_option linter.unusedSimpArgs false
set_option linter.unusedVariables false
namespace PF
open Go Go.RowKit
theorem max2_int (k k' : IntKind) (x y : Int) : Builtin.max2 (.int k x) (.int k' y) = pure (.int k (max x y)) := by
  simp only [Builtin.max2, gt_iff_lt]; rw [show (if x < y then y else x) = max x y from by split <;> omega]
theorem min2_int (k k' : IntKind) (x y : Int) : Builtin.min2 (.int k x) (.int k' y) = pure (.int k (min x y)) := by
  simp only [Builtin.min2]; rw [show (if y < x then y else x) = min x y from by split <;> omega]
theorem max_two (ats : Array TypeId) (ty : TypeId) (a b : Value) : Builtin.max_ ats ty #[a, b] = (Builtin.max2 a b >>= fun s => pure s) := by simp only [Builtin.max_, List.foldlM_cons, List.foldlM_nil]
theorem min_two (ats : Array TypeId) (ty : TypeId) (a b : Value) : Builtin.min_ ats ty #[a, b] = (Builtin.min2 a b >>= fun s => pure s) := by simp only [Builtin.min_, List.foldlM_cons, List.foldlM_nil]
/-- the least rectangle around points, begun with a rectangle -/
def bxs (l : List (Int × Int)) (b : Int × Int × Int × Int) : Int × Int × Int × Int :=
  l.foldl (fun b p => (min b.1 p.1, min b.2.1 p.2, max b.2.2.1 p.1, max b.2.2.2 p.2)) b
theorem bxs_snoc (l : List (Int × Int)) (b : Int × Int × Int × Int) (k : Nat) (p : Int × Int) (h : l[k]? = some p) :
    bxs (l.take (k + 1)) b = (min (bxs (l.take k) b).1 p.1, min (bxs (l.take k) b).2.1 p.2, max (bxs (l.take k) b).2.2.1 p.1, max (bxs (l.take k) b).2.2.2 p.2) := by
  rw [List.take_add_one, h]
  simp [bxs, List.foldl_append]
end PF
namespace Go.Proofs.YtlpibeloedfbdaaGreat
open Go.RowKit PF JR
attribute [local go_sem] PF.max2_int PF.min2_int PF.max_two PF.min_two



end Go.Proofs.YtlpibeloedfbdaaGreat
