/-
  No cell of these rows narrows 'for every input' (looked for: loops, veiled, ifaces, maps, wideKeys, modest, calm, conditions, laid).
  DERIVED. THE GIVEN ROWS OF THIS SEAT. 3 by the template 'for every input the law returns true; each argument reads behind the call as it read before'; 0 by the template 'total and deterministic' (their statements: YtkaoldmdikljiaaTotals.lean).
  GIVEN WITH THE SEED: the statements are not yours to turn. If you find one false, say at which input.
  Laid BY PROGRAM, IN A SANDBOX (cutbox-rows.mjs): the forced cells as the released guide's own fill.sh prints them over the translation a247f58dcb18dc18… (all of the seat's roots in one cut). By AI agents, Wed Nov 11 2026. No macro, syntax, notation, axiom, sorry.
-/
import Derived.Test.YtkaoldmdikljiaaChecked
import GoSem.Claim
import GoSem.ClaimJoined
import GoSem.ClaimMapViews
import Derived.JoinedTies
import Derived.KernelRfl
namespace Go.Proofs.Ytkaoldmdikljiaa
/- THE CELL 'sum', in the pinned program and in every row, IS THE sha256 OF THE DUMP (.gsa) THAT YtkaoldmdikljiaaProg.lean LOADS. Nothing in Lean hashes anything: it is a label: what it is worth is what the hold of that sum in a sandbox is worth. -/
noncomputable def Try.pinned : Pinned := { name := "ytkaoldmdikljiaa", sum := "a247f58dcb18dc188a5278b344a942ad5be2b1e2b6be16e16130af60efaa13e9", checked := Try.checked }
namespace Rows
def none {H : Type} : Left H := { results := [], args := [] }

/-- 'laws.FnTurnRect': WHATEVER THE INPUT: true; the input reads as it did. -/
def fnTurnRectSpec : ChangeSpec := { name := "fnTurnRect", fn := fun _ => fun
  | [d1, d2, d3, d4] => { results := [.lit (.bool true)], args := [d1, d2, d3, d4] }
  | _ => none }
def fnTurnRectRow : OpenClaim := { program := "ytkaoldmdikljiaa", sum := "a247f58dcb18dc188a5278b344a942ad5be2b1e2b6be16e16130af60efaa13e9", func := "pub-promontory/laws.FnTurnRect", spec := "fnTurnRect", apart := false }
def FnTurnRectSaid : Prop := fnTurnRectRow.holds Try.pinned (OpenSpec.ofChange fnTurnRectSpec)

/-- ITS FALSE NEIGHBOUR: 'it returns false'. Refute it at one input. -/
def fnTurnRectWrong : ChangeSpec := { name := "fnTurnRect", fn := fun _ => fun
  | [d1, d2, d3, d4] => { results := [.lit (.bool false)], args := [d1, d2, d3, d4] }
  | _ => none }
def FnTurnRectWrongFalsely : Prop := fnTurnRectRow.holds Try.pinned (OpenSpec.ofChange fnTurnRectWrong)

/-- 'laws.FnTurnRaycast': WHATEVER THE INPUT: true; the input reads as it did. -/
def fnTurnRaycastSpec : ChangeSpec := { name := "fnTurnRaycast", fn := fun _ => fun
  | [d1, d2, d3, d4] => { results := [.lit (.bool true)], args := [d1, d2, d3, d4] }
  | _ => none }
def fnTurnRaycastRow : OpenClaim := { program := "ytkaoldmdikljiaa", sum := "a247f58dcb18dc188a5278b344a942ad5be2b1e2b6be16e16130af60efaa13e9", func := "pub-promontory/laws.FnTurnRaycast", spec := "fnTurnRaycast", inPlace := ["math.Float64frombits", "math.Float64bits"], apart := false }
def FnTurnRaycastSaid : Prop := fnTurnRaycastRow.holds Try.pinned (OpenSpec.ofChange fnTurnRaycastSpec)

/-- ITS FALSE NEIGHBOUR: 'it returns false'. Refute it at one input. -/
def fnTurnRaycastWrong : ChangeSpec := { name := "fnTurnRaycast", fn := fun _ => fun
  | [d1, d2, d3, d4] => { results := [.lit (.bool false)], args := [d1, d2, d3, d4] }
  | _ => none }
def FnTurnRaycastWrongFalsely : Prop := fnTurnRaycastRow.holds Try.pinned (OpenSpec.ofChange fnTurnRaycastWrong)

/-- 'laws.FnTurnSegment': WHATEVER THE INPUT: true; the input reads as it did. -/
def fnTurnSegmentSpec : ChangeSpec := { name := "fnTurnSegment", fn := fun _ => fun
  | [d1, d2, d3] => { results := [.lit (.bool true)], args := [d1, d2, d3] }
  | _ => none }
def fnTurnSegmentRow : OpenClaim := { program := "ytkaoldmdikljiaa", sum := "a247f58dcb18dc188a5278b344a942ad5be2b1e2b6be16e16130af60efaa13e9", func := "pub-promontory/laws.FnTurnSegment", spec := "fnTurnSegment", inPlace := ["math.Float64frombits", "math.Float64bits"], apart := false }
def FnTurnSegmentSaid : Prop := fnTurnSegmentRow.holds Try.pinned (OpenSpec.ofChange fnTurnSegmentSpec)

/-- ITS FALSE NEIGHBOUR: 'it returns false'. Refute it at one input. -/
def fnTurnSegmentWrong : ChangeSpec := { name := "fnTurnSegment", fn := fun _ => fun
  | [d1, d2, d3] => { results := [.lit (.bool false)], args := [d1, d2, d3] }
  | _ => none }
def FnTurnSegmentWrongFalsely : Prop := fnTurnSegmentRow.holds Try.pinned (OpenSpec.ofChange fnTurnSegmentWrong)

/- THE SECOND FORM. 'bulk': how many values and letters a reading holds, each counted each time it is reached (what is shared counts as often as it is met; a slice's spare places count too). A statement '..UptoSaid' is the law's where the arguments, and the package variables that the reading takes, are together of bulk at most 1048576: NARROWER than '..Said'. Prove '..Said' where nothing that the law and all that it calls make is longer than what came in: it says more and counts as full. Else prove '..UptoSaid'. A law counts once. -/
mutual
def uptoBulk {H : Type} : DataW H → Nat
  | .lit (.string bytes) => bytes.length + 1
  | .lit _ => 1
  | .nil => 1
  | .ptr d => uptoBulk d + 1
  | .slice elems spare => uptoBulkAll elems + uptoBulkAll spare + 1
  | .agg parts => uptoBulkAll parts + 1
  | .iface _ d => uptoBulk d + 1
  | .map entries => uptoBulkEntries entries + 1
  | .held _ => 1
def uptoBulkAll {H : Type} : List (DataW H) → Nat
  | [] => 0
  | d :: r => uptoBulk d + uptoBulkAll r
def uptoBulkEntries {H : Type} : List (Lit × DataW H) → Nat
  | [] => 0
  | x :: r => uptoBulkEntry x + uptoBulkEntries r
def uptoBulkEntry {H : Type} : Lit × DataW H → Nat
  | (.string bytes, d) => bytes.length + uptoBulk d + 1
  | (_, d) => uptoBulk d + 1
 end
def uptoSmall : (H : Type) → List (DataW H) → Bool := fun _ ds => decide (uptoBulkAll ds ≤ 1048576)
def OpenSpec.upto (s : _root_.Go.ChangeSpec) : _root_.Go.OpenSpec := { _root_.Go.OpenSpec.ofChange s with cond := some uptoSmall }

/-- 'laws.FnTurnRect', WHERE WHAT IT READS IS OF BULK AT MOST 1048576: true; the input reads as it did. -/
def fnTurnRectUptoRow : OpenClaim := { program := "ytkaoldmdikljiaa", sum := "a247f58dcb18dc188a5278b344a942ad5be2b1e2b6be16e16130af60efaa13e9", func := "pub-promontory/laws.FnTurnRect", spec := "fnTurnRect", apart := false, narrowed := true }
def FnTurnRectUptoSaid : Prop := fnTurnRectUptoRow.holds Try.pinned (OpenSpec.upto fnTurnRectSpec)

/-- 'laws.FnTurnRaycast', WHERE WHAT IT READS IS OF BULK AT MOST 1048576: true; the input reads as it did. -/
def fnTurnRaycastUptoRow : OpenClaim := { program := "ytkaoldmdikljiaa", sum := "a247f58dcb18dc188a5278b344a942ad5be2b1e2b6be16e16130af60efaa13e9", func := "pub-promontory/laws.FnTurnRaycast", spec := "fnTurnRaycast", inPlace := ["math.Float64frombits", "math.Float64bits"], apart := false, narrowed := true }
def FnTurnRaycastUptoSaid : Prop := fnTurnRaycastUptoRow.holds Try.pinned (OpenSpec.upto fnTurnRaycastSpec)

/-- 'laws.FnTurnSegment', WHERE WHAT IT READS IS OF BULK AT MOST 1048576: true; the input reads as it did. -/
def fnTurnSegmentUptoRow : OpenClaim := { program := "ytkaoldmdikljiaa", sum := "a247f58dcb18dc188a5278b344a942ad5be2b1e2b6be16e16130af60efaa13e9", func := "pub-promontory/laws.FnTurnSegment", spec := "fnTurnSegment", inPlace := ["math.Float64frombits", "math.Float64bits"], apart := false, narrowed := true }
def FnTurnSegmentUptoSaid : Prop := fnTurnSegmentUptoRow.holds Try.pinned (OpenSpec.upto fnTurnSegmentSpec)

end Rows
end Go.Proofs.Ytkaoldmdikljiaa
