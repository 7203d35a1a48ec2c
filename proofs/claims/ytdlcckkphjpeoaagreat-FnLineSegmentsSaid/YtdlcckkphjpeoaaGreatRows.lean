/-
  No cell of these rows narrows 'for every input' (looked for: loops, veiled, ifaces, maps, wideKeys, modest, calm, conditions, laid).
  DERIVED. THE GIVEN ROWS OF THIS SEAT. 3 by the template 'for every input the law returns true; each argument reads behind the call as it read before'; 0 by the template 'total and deterministic' (their statements: YtdlcckkphjpeoaaGreatTotals.lean).
  GIVEN WITH THE SEED: the statements are not yours to turn. If you find one false, say at which input.
  Laid BY PROGRAM, IN A SANDBOX (cutbox-rows.mjs): the forced cells as the released guide's own fill.sh prints them over the translation bd104336208f00fb… (all of the seat's roots in one cut). By AI agents, Wed Nov 11 2026. No macro, syntax, notation, axiom, sorry.
-/
import Derived.Test.YtdlcckkphjpeoaaGreatChecked
import GoSem.Claim
import GoSem.ClaimJoined
import GoSem.ClaimMapViews
import Derived.JoinedTies
import Derived.KernelRfl
namespace Go.Proofs.YtdlcckkphjpeoaaGreat
/- THE CELL 'sum', in the pinned program and in every row, IS THE sha256 OF THE DUMP (.gsa) THAT YtdlcckkphjpeoaaGreatProg.lean LOADS. Nothing in Lean hashes anything: it is a label: what it is worth is what the hold of that sum in a sandbox is worth. -/
noncomputable def Tryz.pinned : Pinned := { name := "ytdlcckkphjpeoaagreat", sum := "bd104336208f00fbb82dea11468c5ee020682cf0ae68a85dbfbc8594247ef3cb", checked := Tryz.checked }
namespace Rows
def none {H : Type} : Left H := { results := [], args := [] }

/-- 'laws.FnTurnPoint': WHATEVER THE INPUT: true; the input reads as it did. -/
def fnTurnPointSpec : ChangeSpec := { name := "fnTurnPoint", fn := fun _ => fun
  | [d1, d2, d3, d4] => { results := [.lit (.bool true)], args := [d1, d2, d3, d4] }
  | _ => none }
def fnTurnPointRow : OpenClaim := { program := "ytdlcckkphjpeoaagreat", sum := "bd104336208f00fbb82dea11468c5ee020682cf0ae68a85dbfbc8594247ef3cb", func := "pub-promontory/laws.FnTurnPoint", spec := "fnTurnPoint", inPlace := ["math.Float64bits"], unfollowed := true, recurses := true, named := ["encoding/binary.LittleEndian"], apart := false }
def FnTurnPointSaid : Prop := fnTurnPointRow.holds Tryz.pinned (OpenSpec.ofChange fnTurnPointSpec)

/-- ITS FALSE NEIGHBOUR: 'it returns false'. Refute it at one input. -/
def fnTurnPointWrong : ChangeSpec := { name := "fnTurnPoint", fn := fun _ => fun
  | [d1, d2, d3, d4] => { results := [.lit (.bool false)], args := [d1, d2, d3, d4] }
  | _ => none }
def FnTurnPointWrongFalsely : Prop := fnTurnPointRow.holds Tryz.pinned (OpenSpec.ofChange fnTurnPointWrong)

/-- 'laws.FnRaycastSum': WHATEVER THE INPUT: true; the input reads as it did. -/
def fnRaycastSumSpec : ChangeSpec := { name := "fnRaycastSum", fn := fun _ => fun
  | [d1, d2, d3] => { results := [.lit (.bool true)], args := [d1, d2, d3] }
  | _ => none }
def fnRaycastSumRow : OpenClaim := { program := "ytdlcckkphjpeoaagreat", sum := "bd104336208f00fbb82dea11468c5ee020682cf0ae68a85dbfbc8594247ef3cb", func := "pub-promontory/laws.FnRaycastSum", spec := "fnRaycastSum", inPlace := ["math.Float64frombits", "math.Float64bits"], unfollowed := true, recurses := true, named := ["encoding/binary.LittleEndian"], apart := false }
def FnRaycastSumSaid : Prop := fnRaycastSumRow.holds Tryz.pinned (OpenSpec.ofChange fnRaycastSumSpec)

/-- ITS FALSE NEIGHBOUR: 'it returns false'. Refute it at one input. -/
def fnRaycastSumWrong : ChangeSpec := { name := "fnRaycastSum", fn := fun _ => fun
  | [d1, d2, d3] => { results := [.lit (.bool false)], args := [d1, d2, d3] }
  | _ => none }
def FnRaycastSumWrongFalsely : Prop := fnRaycastSumRow.holds Tryz.pinned (OpenSpec.ofChange fnRaycastSumWrong)

/-- 'laws.FnLineSegments': WHATEVER THE INPUT: true; the input reads as it did. -/
def fnLineSegmentsSpec : ChangeSpec := { name := "fnLineSegments", fn := fun _ => fun
  | [d1, d2, d3, d4] => { results := [.lit (.bool true)], args := [d1, d2, d3, d4] }
  | _ => none }
def fnLineSegmentsRow : OpenClaim := { program := "ytdlcckkphjpeoaagreat", sum := "bd104336208f00fbb82dea11468c5ee020682cf0ae68a85dbfbc8594247ef3cb", func := "pub-promontory/laws.FnLineSegments", spec := "fnLineSegments", inPlace := ["math.Float64frombits", "math.Float64bits"], unfollowed := true, recurses := true, named := ["encoding/binary.LittleEndian"], apart := false }
def FnLineSegmentsSaid : Prop := fnLineSegmentsRow.holds Tryz.pinned (OpenSpec.ofChange fnLineSegmentsSpec)

/-- ITS FALSE NEIGHBOUR: 'it returns false'. Refute it at one input. -/
def fnLineSegmentsWrong : ChangeSpec := { name := "fnLineSegments", fn := fun _ => fun
  | [d1, d2, d3, d4] => { results := [.lit (.bool false)], args := [d1, d2, d3, d4] }
  | _ => none }
def FnLineSegmentsWrongFalsely : Prop := fnLineSegmentsRow.holds Tryz.pinned (OpenSpec.ofChange fnLineSegmentsWrong)

/- THE SECOND FORM. 'bulk': how many values and letters a reading holds, each counted each time it is reached (what is shared counts as often as it is met; a slice's spare places count too). A statement '..UptoSaid' is the law's where the arguments, and the package variables that the reading takes, are together of bulk at most 1048576: NARROWER than '..Said'. Prove '..Said' where nothing that the law and all that it calls make is longer than what came in: it says more and counts as full. Else prove '..UptoSaid'. A law counts once. -/
mutual
def uptoBulk {H : Type} : DataW H → Nat
  | .lit (.string bytes) => bytes.length + 1
  | .lit _ => 1
  | .nil => 1
  | .ptr d => uptoBulk d + 1
  | .slice elems spare => uptoBulkAll elems + uptoBulkAll spare + 1
  | .agg parts => uptoBulkAll parts + 1
  | .iface _ d => uptoBulk d + 1
  | .map entries => uptoBulkEntries entries + 1
  | .held _ => 1
def uptoBulkAll {H : Type} : List (DataW H) → Nat
  | [] => 0
  | d :: r => uptoBulk d + uptoBulkAll r
def uptoBulkEntries {H : Type} : List (Lit × DataW H) → Nat
  | [] => 0
  | x :: r => uptoBulkEntry x + uptoBulkEntries r
def uptoBulkEntry {H : Type} : Lit × DataW H → Nat
  | (.string bytes, d) => bytes.length + uptoBulk d + 1
  | (_, d) => uptoBulk d + 1
 end
def uptoSmall : (H : Type) → List (DataW H) → Bool := fun _ ds => decide (uptoBulkAll ds ≤ 1048576)
def OpenSpec.upto (s : _root_.Go.ChangeSpec) : _root_.Go.OpenSpec := { _root_.Go.OpenSpec.ofChange s with cond := some uptoSmall }

/-- 'laws.FnTurnPoint', WHERE WHAT IT READS IS OF BULK AT MOST 1048576: true; the input reads as it did. -/
def fnTurnPointUptoRow : OpenClaim := { program := "ytdlcckkphjpeoaagreat", sum := "bd104336208f00fbb82dea11468c5ee020682cf0ae68a85dbfbc8594247ef3cb", func := "pub-promontory/laws.FnTurnPoint", spec := "fnTurnPoint", inPlace := ["math.Float64bits"], unfollowed := true, recurses := true, named := ["encoding/binary.LittleEndian"], apart := false, narrowed := true }
def FnTurnPointUptoSaid : Prop := fnTurnPointUptoRow.holds Tryz.pinned (OpenSpec.upto fnTurnPointSpec)

/-- 'laws.FnRaycastSum', WHERE WHAT IT READS IS OF BULK AT MOST 1048576: true; the input reads as it did. -/
def fnRaycastSumUptoRow : OpenClaim := { program := "ytdlcckkphjpeoaagreat", sum := "bd104336208f00fbb82dea11468c5ee020682cf0ae68a85dbfbc8594247ef3cb", func := "pub-promontory/laws.FnRaycastSum", spec := "fnRaycastSum", inPlace := ["math.Float64frombits", "math.Float64bits"], unfollowed := true, recurses := true, named := ["encoding/binary.LittleEndian"], apart := false, narrowed := true }
def FnRaycastSumUptoSaid : Prop := fnRaycastSumUptoRow.holds Tryz.pinned (OpenSpec.upto fnRaycastSumSpec)

/-- 'laws.FnLineSegments', WHERE WHAT IT READS IS OF BULK AT MOST 1048576: true; the input reads as it did. -/
def fnLineSegmentsUptoRow : OpenClaim := { program := "ytdlcckkphjpeoaagreat", sum := "bd104336208f00fbb82dea11468c5ee020682cf0ae68a85dbfbc8594247ef3cb", func := "pub-promontory/laws.FnLineSegments", spec := "fnLineSegments", inPlace := ["math.Float64frombits", "math.Float64bits"], unfollowed := true, recurses := true, named := ["encoding/binary.LittleEndian"], apart := false, narrowed := true }
def FnLineSegmentsUptoSaid : Prop := fnLineSegmentsUptoRow.holds Tryz.pinned (OpenSpec.upto fnLineSegmentsSpec)

end Rows
end Go.Proofs.YtdlcckkphjpeoaaGreat
