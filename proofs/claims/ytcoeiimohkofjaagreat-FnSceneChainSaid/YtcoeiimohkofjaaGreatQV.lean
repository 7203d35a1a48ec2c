import Derived.Test.YtcoeiimohkofjaaGreatSl
import Derived.LoopN
set_option linter.unusedSimpArgs false
set_option linter.unusedVariables false
namespace PF
open Go Go.RowKit
end PF
namespace Go.Proofs.YtcoeiimohkofjaaGreat
open Go.RowKit PF JR








end Go.Proofs.YtcoeiimohkofjaaGreat
set_option linter.unusedSimpArgs false
set_option linter.unusedVariables false
namespace Go.Proofs.YtcoeiimohkofjaaGreat
open Go.RowKit PF JR



theorem own_none (v : Value) : v.ownBlock = none ∨ v.ownBlock ≠ none := by cases v.ownBlock <;> simp
theorem new_cells (w : World) (T : TypeId) (x y : Value) : ∀ (j : Nat) (u : Value), [x, y][j]? = some u → (w.alloc (.cells #[x, y] T)).cell? ((⟨w.heap.size, 0, none⟩ : Addr).add j) = some u := by
  intro j u h
  have e : (⟨w.heap.size, 0, none⟩ : Addr).add j = ⟨w.heap.size, 0 + j, none⟩ := by unfold Addr.add; split <;> simp_all
  rw [e]
  have hh := heap_alloc_new w (.cells #[x, y] T)
  unfold World.cell?
  simp only [hh]
  match j, h with
  | 0, h => simpa using h
  | 1, h => simpa using h

theorem infoP : (Tryz.prog.info? 63).map (fun i => (i.zero, i.size, i.bytes)) = some (some (.agg #[.int .i64 0, .int .i64 0]), 2, 16) := by kernel_rfl

end Go.Proofs.YtcoeiimohkofjaaGreat
set_option linter.unusedSimpArgs false
set_option linter.unusedVariables false
namespace Go.Proofs.YtcoeiimohkofjaaGreat
open Go.RowKit PF JR


end Go.Proofs.YtcoeiimohkofjaaGreat
