/-
  No cell of these rows narrows 'for every input' (looked for: loops, veiled, ifaces, maps, wideKeys, modest, calm, conditions, laid).
  DERIVED. THE GIVEN ROWS OF THIS SEAT. 8 by the template 'for every input the law returns true; each argument reads behind the call as it read before'; 0 by the template 'total and deterministic' (their statements: YtbfanhdofopnnaaGreatTotals.lean).
  GIVEN WITH THE SEED: the statements are not yours to turn. If you find one false, say at which input.
  Laid BY PROGRAM, IN A SANDBOX (cutbox-rows.mjs): the forced cells as the released guide's own fill.sh prints them over the translation fb2531b42e87b06c… (all of the seat's roots in one cut). By AI agents, Wed Nov 11 2026. No macro, syntax, notation, axiom, sorry.
-/
import Derived.Test.YtbfanhdofopnnaaGreatChecked
import GoSem.Claim
import GoSem.ClaimJoined
import GoSem.ClaimMapViews
import Derived.JoinedTies
import Derived.KernelRfl
namespace Go.Proofs.YtbfanhdofopnnaaGreat
/- THE CELL 'sum', in the pinned program and in every row, IS THE sha256 OF THE DUMP (.gsa) THAT YtbfanhdofopnnaaGreatProg.lean LOADS. Nothing in Lean hashes anything: it is a label: what it is worth is what the hold of that sum in a sandbox is worth. -/
noncomputable def Tryz.pinned : Pinned := { name := "ytbfanhdofopnnaagreat", sum := "fb2531b42e87b06c053798f51c0b2f9b96664c559aeaa218e843546d553a1ab1", checked := Tryz.checked }
namespace Rows
def none {H : Type} : Left H := { results := [], args := [] }

/-- 'laws.FnTurnMeets': WHATEVER THE INPUT: true; the input reads as it did. -/
def fnTurnMeetsSpec : ChangeSpec := { name := "fnTurnMeets", fn := fun _ => fun
  | [d1, d2, d3, d4] => { results := [.lit (.bool true)], args := [d1, d2, d3, d4] }
  | _ => none }
def fnTurnMeetsRow : OpenClaim := { program := "ytbfanhdofopnnaagreat", sum := "fb2531b42e87b06c053798f51c0b2f9b96664c559aeaa218e843546d553a1ab1", func := "pub-promontory/laws.FnTurnMeets", spec := "fnTurnMeets", inPlace := ["math.Float64bits"], unfollowed := true, recurses := true, named := ["encoding/binary.LittleEndian"], apart := false }
def FnTurnMeetsSaid : Prop := fnTurnMeetsRow.holds Tryz.pinned (OpenSpec.ofChange fnTurnMeetsSpec)

/-- ITS FALSE NEIGHBOUR: 'it returns false'. Refute it at one input. -/
def fnTurnMeetsWrong : ChangeSpec := { name := "fnTurnMeets", fn := fun _ => fun
  | [d1, d2, d3, d4] => { results := [.lit (.bool false)], args := [d1, d2, d3, d4] }
  | _ => none }
def FnTurnMeetsWrongFalsely : Prop := fnTurnMeetsRow.holds Tryz.pinned (OpenSpec.ofChange fnTurnMeetsWrong)

/-- 'laws.FnBegunMeets': WHATEVER THE INPUT: true; the input reads as it did. -/
def fnBegunMeetsSpec : ChangeSpec := { name := "fnBegunMeets", fn := fun _ => fun
  | [d1, d2, d3, d4] => { results := [.lit (.bool true)], args := [d1, d2, d3, d4] }
  | _ => none }
def fnBegunMeetsRow : OpenClaim := { program := "ytbfanhdofopnnaagreat", sum := "fb2531b42e87b06c053798f51c0b2f9b96664c559aeaa218e843546d553a1ab1", func := "pub-promontory/laws.FnBegunMeets", spec := "fnBegunMeets", inPlace := ["math.Float64bits"], unfollowed := true, recurses := true, named := ["encoding/binary.LittleEndian"], apart := false }
def FnBegunMeetsSaid : Prop := fnBegunMeetsRow.holds Tryz.pinned (OpenSpec.ofChange fnBegunMeetsSpec)

/-- ITS FALSE NEIGHBOUR: 'it returns false'. Refute it at one input. -/
def fnBegunMeetsWrong : ChangeSpec := { name := "fnBegunMeets", fn := fun _ => fun
  | [d1, d2, d3, d4] => { results := [.lit (.bool false)], args := [d1, d2, d3, d4] }
  | _ => none }
def FnBegunMeetsWrongFalsely : Prop := fnBegunMeetsRow.holds Tryz.pinned (OpenSpec.ofChange fnBegunMeetsWrong)

/-- 'laws.FnHolesAlike': WHATEVER THE INPUT: true; the input reads as it did. -/
def fnHolesAlikeSpec : ChangeSpec := { name := "fnHolesAlike", fn := fun _ => fun
  | [d1, d2, d3, d4] => { results := [.lit (.bool true)], args := [d1, d2, d3, d4] }
  | _ => none }
def fnHolesAlikeRow : OpenClaim := { program := "ytbfanhdofopnnaagreat", sum := "fb2531b42e87b06c053798f51c0b2f9b96664c559aeaa218e843546d553a1ab1", func := "pub-promontory/laws.FnHolesAlike", spec := "fnHolesAlike", inPlace := ["math.Float64bits"], unfollowed := true, recurses := true, named := ["encoding/binary.LittleEndian"], apart := false }
def FnHolesAlikeSaid : Prop := fnHolesAlikeRow.holds Tryz.pinned (OpenSpec.ofChange fnHolesAlikeSpec)

/-- ITS FALSE NEIGHBOUR: 'it returns false'. Refute it at one input. -/
def fnHolesAlikeWrong : ChangeSpec := { name := "fnHolesAlike", fn := fun _ => fun
  | [d1, d2, d3, d4] => { results := [.lit (.bool false)], args := [d1, d2, d3, d4] }
  | _ => none }
def FnHolesAlikeWrongFalsely : Prop := fnHolesAlikeRow.holds Tryz.pinned (OpenSpec.ofChange fnHolesAlikeWrong)

/-- 'laws.FnClosedAlike': WHATEVER THE INPUT: true; the input reads as it did. -/
def fnClosedAlikeSpec : ChangeSpec := { name := "fnClosedAlike", fn := fun _ => fun
  | [d1, d2, d3, d4] => { results := [.lit (.bool true)], args := [d1, d2, d3, d4] }
  | _ => none }
def fnClosedAlikeRow : OpenClaim := { program := "ytbfanhdofopnnaagreat", sum := "fb2531b42e87b06c053798f51c0b2f9b96664c559aeaa218e843546d553a1ab1", func := "pub-promontory/laws.FnClosedAlike", spec := "fnClosedAlike", inPlace := ["math.Float64bits"], unfollowed := true, recurses := true, named := ["encoding/binary.LittleEndian"], apart := false }
def FnClosedAlikeSaid : Prop := fnClosedAlikeRow.holds Tryz.pinned (OpenSpec.ofChange fnClosedAlikeSpec)

/-- ITS FALSE NEIGHBOUR: 'it returns false'. Refute it at one input. -/
def fnClosedAlikeWrong : ChangeSpec := { name := "fnClosedAlike", fn := fun _ => fun
  | [d1, d2, d3, d4] => { results := [.lit (.bool false)], args := [d1, d2, d3, d4] }
  | _ => none }
def FnClosedAlikeWrongFalsely : Prop := fnClosedAlikeRow.holds Tryz.pinned (OpenSpec.ofChange fnClosedAlikeWrong)

/-- 'laws.FnRectSides': WHATEVER THE INPUT: true; the input reads as it did. -/
def fnRectSidesSpec : ChangeSpec := { name := "fnRectSides", fn := fun _ => fun
  | [d1, d2, d3] => { results := [.lit (.bool true)], args := [d1, d2, d3] }
  | _ => none }
def fnRectSidesRow : OpenClaim := { program := "ytbfanhdofopnnaagreat", sum := "fb2531b42e87b06c053798f51c0b2f9b96664c559aeaa218e843546d553a1ab1", func := "pub-promontory/laws.FnRectSides", spec := "fnRectSides", inPlace := ["math.Float64frombits", "math.Float64bits"], unfollowed := true, recurses := true, named := ["encoding/binary.LittleEndian"], apart := false }
def FnRectSidesSaid : Prop := fnRectSidesRow.holds Tryz.pinned (OpenSpec.ofChange fnRectSidesSpec)

/-- ITS FALSE NEIGHBOUR: 'it returns false'. Refute it at one input. -/
def fnRectSidesWrong : ChangeSpec := { name := "fnRectSides", fn := fun _ => fun
  | [d1, d2, d3] => { results := [.lit (.bool false)], args := [d1, d2, d3] }
  | _ => none }
def FnRectSidesWrongFalsely : Prop := fnRectSidesRow.holds Tryz.pinned (OpenSpec.ofChange fnRectSidesWrong)

/-- 'laws.FnTurnHolds': WHATEVER THE INPUT: true; the input reads as it did. -/
def fnTurnHoldsSpec : ChangeSpec := { name := "fnTurnHolds", fn := fun _ => fun
  | [d1, d2, d3, d4] => { results := [.lit (.bool true)], args := [d1, d2, d3, d4] }
  | _ => none }
def fnTurnHoldsRow : OpenClaim := { program := "ytbfanhdofopnnaagreat", sum := "fb2531b42e87b06c053798f51c0b2f9b96664c559aeaa218e843546d553a1ab1", func := "pub-promontory/laws.FnTurnHolds", spec := "fnTurnHolds", inPlace := ["math.Float64bits"], unfollowed := true, recurses := true, named := ["encoding/binary.LittleEndian"], apart := false }
def FnTurnHoldsSaid : Prop := fnTurnHoldsRow.holds Tryz.pinned (OpenSpec.ofChange fnTurnHoldsSpec)

/-- ITS FALSE NEIGHBOUR: 'it returns false'. Refute it at one input. -/
def fnTurnHoldsWrong : ChangeSpec := { name := "fnTurnHolds", fn := fun _ => fun
  | [d1, d2, d3, d4] => { results := [.lit (.bool false)], args := [d1, d2, d3, d4] }
  | _ => none }
def FnTurnHoldsWrongFalsely : Prop := fnTurnHoldsRow.holds Tryz.pinned (OpenSpec.ofChange fnTurnHoldsWrong)

/-- 'laws.FnBegunHolds': WHATEVER THE INPUT: true; the input reads as it did. -/
def fnBegunHoldsSpec : ChangeSpec := { name := "fnBegunHolds", fn := fun _ => fun
  | [d1, d2, d3, d4] => { results := [.lit (.bool true)], args := [d1, d2, d3, d4] }
  | _ => none }
def fnBegunHoldsRow : OpenClaim := { program := "ytbfanhdofopnnaagreat", sum := "fb2531b42e87b06c053798f51c0b2f9b96664c559aeaa218e843546d553a1ab1", func := "pub-promontory/laws.FnBegunHolds", spec := "fnBegunHolds", inPlace := ["math.Float64bits"], unfollowed := true, recurses := true, named := ["encoding/binary.LittleEndian"], apart := false }
def FnBegunHoldsSaid : Prop := fnBegunHoldsRow.holds Tryz.pinned (OpenSpec.ofChange fnBegunHoldsSpec)

/-- ITS FALSE NEIGHBOUR: 'it returns false'. Refute it at one input. -/
def fnBegunHoldsWrong : ChangeSpec := { name := "fnBegunHolds", fn := fun _ => fun
  | [d1, d2, d3, d4] => { results := [.lit (.bool false)], args := [d1, d2, d3, d4] }
  | _ => none }
def FnBegunHoldsWrongFalsely : Prop := fnBegunHoldsRow.holds Tryz.pinned (OpenSpec.ofChange fnBegunHoldsWrong)

/-- 'laws.FnRectAsPoly': WHATEVER THE INPUT: true; the input reads as it did. -/
def fnRectAsPolySpec : ChangeSpec := { name := "fnRectAsPoly", fn := fun _ => fun
  | [d1, d2, d3] => { results := [.lit (.bool true)], args := [d1, d2, d3] }
  | _ => none }
def fnRectAsPolyRow : OpenClaim := { program := "ytbfanhdofopnnaagreat", sum := "fb2531b42e87b06c053798f51c0b2f9b96664c559aeaa218e843546d553a1ab1", func := "pub-promontory/laws.FnRectAsPoly", spec := "fnRectAsPoly", inPlace := ["math.Float64bits"], unfollowed := true, recurses := true, named := ["encoding/binary.LittleEndian"], apart := false }
def FnRectAsPolySaid : Prop := fnRectAsPolyRow.holds Tryz.pinned (OpenSpec.ofChange fnRectAsPolySpec)

/-- ITS FALSE NEIGHBOUR: 'it returns false'. Refute it at one input. -/
def fnRectAsPolyWrong : ChangeSpec := { name := "fnRectAsPoly", fn := fun _ => fun
  | [d1, d2, d3] => { results := [.lit (.bool false)], args := [d1, d2, d3] }
  | _ => none }
def FnRectAsPolyWrongFalsely : Prop := fnRectAsPolyRow.holds Tryz.pinned (OpenSpec.ofChange fnRectAsPolyWrong)

/- THE SECOND FORM. 'bulk': how many values and letters a reading holds, each counted each time it is reached (what is shared counts as often as it is met; a slice's spare places count too). A statement '..UptoSaid' is the law's where the arguments, and the package variables that the reading takes, are together of bulk at most 1048576: NARROWER than '..Said'. Prove '..Said' where nothing that the law and all that it calls make is longer than what came in: it says more and counts as full. Else prove '..UptoSaid'. A law counts once. -/
mutual
def uptoBulk {H : Type} : DataW H → Nat
  | .lit (.string bytes) => bytes.length + 1
  | .lit _ => 1
  | .nil => 1
  | .ptr d => uptoBulk d + 1
  | .slice elems spare => uptoBulkAll elems + uptoBulkAll spare + 1
  | .agg parts => uptoBulkAll parts + 1
  | .iface _ d => uptoBulk d + 1
  | .map entries => uptoBulkEntries entries + 1
  | .held _ => 1
def uptoBulkAll {H : Type} : List (DataW H) → Nat
  | [] => 0
  | d :: r => uptoBulk d + uptoBulkAll r
def uptoBulkEntries {H : Type} : List (Lit × DataW H) → Nat
  | [] => 0
  | x :: r => uptoBulkEntry x + uptoBulkEntries r
def uptoBulkEntry {H : Type} : Lit × DataW H → Nat
  | (.string bytes, d) => bytes.length + uptoBulk d + 1
  | (_, d) => uptoBulk d + 1
 end
def uptoSmall : (H : Type) → List (DataW H) → Bool := fun _ ds => decide (uptoBulkAll ds ≤ 1048576)
def OpenSpec.upto (s : _root_.Go.ChangeSpec) : _root_.Go.OpenSpec := { _root_.Go.OpenSpec.ofChange s with cond := some uptoSmall }

/-- 'laws.FnTurnMeets', WHERE WHAT IT READS IS OF BULK AT MOST 1048576: true; the input reads as it did. -/
def fnTurnMeetsUptoRow : OpenClaim := { program := "ytbfanhdofopnnaagreat", sum := "fb2531b42e87b06c053798f51c0b2f9b96664c559aeaa218e843546d553a1ab1", func := "pub-promontory/laws.FnTurnMeets", spec := "fnTurnMeets", inPlace := ["math.Float64bits"], unfollowed := true, recurses := true, named := ["encoding/binary.LittleEndian"], apart := false, narrowed := true }
def FnTurnMeetsUptoSaid : Prop := fnTurnMeetsUptoRow.holds Tryz.pinned (OpenSpec.upto fnTurnMeetsSpec)

/-- 'laws.FnBegunMeets', WHERE WHAT IT READS IS OF BULK AT MOST 1048576: true; the input reads as it did. -/
def fnBegunMeetsUptoRow : OpenClaim := { program := "ytbfanhdofopnnaagreat", sum := "fb2531b42e87b06c053798f51c0b2f9b96664c559aeaa218e843546d553a1ab1", func := "pub-promontory/laws.FnBegunMeets", spec := "fnBegunMeets", inPlace := ["math.Float64bits"], unfollowed := true, recurses := true, named := ["encoding/binary.LittleEndian"], apart := false, narrowed := true }
def FnBegunMeetsUptoSaid : Prop := fnBegunMeetsUptoRow.holds Tryz.pinned (OpenSpec.upto fnBegunMeetsSpec)

/-- 'laws.FnHolesAlike', WHERE WHAT IT READS IS OF BULK AT MOST 1048576: true; the input reads as it did. -/
def fnHolesAlikeUptoRow : OpenClaim := { program := "ytbfanhdofopnnaagreat", sum := "fb2531b42e87b06c053798f51c0b2f9b96664c559aeaa218e843546d553a1ab1", func := "pub-promontory/laws.FnHolesAlike", spec := "fnHolesAlike", inPlace := ["math.Float64bits"], unfollowed := true, recurses := true, named := ["encoding/binary.LittleEndian"], apart := false, narrowed := true }
def FnHolesAlikeUptoSaid : Prop := fnHolesAlikeUptoRow.holds Tryz.pinned (OpenSpec.upto fnHolesAlikeSpec)

/-- 'laws.FnClosedAlike', WHERE WHAT IT READS IS OF BULK AT MOST 1048576: true; the input reads as it did. -/
def fnClosedAlikeUptoRow : OpenClaim := { program := "ytbfanhdofopnnaagreat", sum := "fb2531b42e87b06c053798f51c0b2f9b96664c559aeaa218e843546d553a1ab1", func := "pub-promontory/laws.FnClosedAlike", spec := "fnClosedAlike", inPlace := ["math.Float64bits"], unfollowed := true, recurses := true, named := ["encoding/binary.LittleEndian"], apart := false, narrowed := true }
def FnClosedAlikeUptoSaid : Prop := fnClosedAlikeUptoRow.holds Tryz.pinned (OpenSpec.upto fnClosedAlikeSpec)

/-- 'laws.FnRectSides', WHERE WHAT IT READS IS OF BULK AT MOST 1048576: true; the input reads as it did. -/
def fnRectSidesUptoRow : OpenClaim := { program := "ytbfanhdofopnnaagreat", sum := "fb2531b42e87b06c053798f51c0b2f9b96664c559aeaa218e843546d553a1ab1", func := "pub-promontory/laws.FnRectSides", spec := "fnRectSides", inPlace := ["math.Float64frombits", "math.Float64bits"], unfollowed := true, recurses := true, named := ["encoding/binary.LittleEndian"], apart := false, narrowed := true }
def FnRectSidesUptoSaid : Prop := fnRectSidesUptoRow.holds Tryz.pinned (OpenSpec.upto fnRectSidesSpec)

/-- 'laws.FnTurnHolds', WHERE WHAT IT READS IS OF BULK AT MOST 1048576: true; the input reads as it did. -/
def fnTurnHoldsUptoRow : OpenClaim := { program := "ytbfanhdofopnnaagreat", sum := "fb2531b42e87b06c053798f51c0b2f9b96664c559aeaa218e843546d553a1ab1", func := "pub-promontory/laws.FnTurnHolds", spec := "fnTurnHolds", inPlace := ["math.Float64bits"], unfollowed := true, recurses := true, named := ["encoding/binary.LittleEndian"], apart := false, narrowed := true }
def FnTurnHoldsUptoSaid : Prop := fnTurnHoldsUptoRow.holds Tryz.pinned (OpenSpec.upto fnTurnHoldsSpec)

/-- 'laws.FnBegunHolds', WHERE WHAT IT READS IS OF BULK AT MOST 1048576: true; the input reads as it did. -/
def fnBegunHoldsUptoRow : OpenClaim := { program := "ytbfanhdofopnnaagreat", sum := "fb2531b42e87b06c053798f51c0b2f9b96664c559aeaa218e843546d553a1ab1", func := "pub-promontory/laws.FnBegunHolds", spec := "fnBegunHolds", inPlace := ["math.Float64bits"], unfollowed := true, recurses := true, named := ["encoding/binary.LittleEndian"], apart := false, narrowed := true }
def FnBegunHoldsUptoSaid : Prop := fnBegunHoldsUptoRow.holds Tryz.pinned (OpenSpec.upto fnBegunHoldsSpec)

/-- 'laws.FnRectAsPoly', WHERE WHAT IT READS IS OF BULK AT MOST 1048576: true; the input reads as it did. -/
def fnRectAsPolyUptoRow : OpenClaim := { program := "ytbfanhdofopnnaagreat", sum := "fb2531b42e87b06c053798f51c0b2f9b96664c559aeaa218e843546d553a1ab1", func := "pub-promontory/laws.FnRectAsPoly", spec := "fnRectAsPoly", inPlace := ["math.Float64bits"], unfollowed := true, recurses := true, named := ["encoding/binary.LittleEndian"], apart := false, narrowed := true }
def FnRectAsPolyUptoSaid : Prop := fnRectAsPolyUptoRow.holds Tryz.pinned (OpenSpec.upto fnRectAsPolySpec)

end Rows
end Go.Proofs.YtbfanhdofopnnaaGreat
