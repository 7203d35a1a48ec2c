/-
  No cell of these rows narrows 'for every input' (looked for: loops, veiled, ifaces, maps, wideKeys, modest, calm, conditions, laid).
  DERIVED. THE GIVEN ROWS OF THIS SEAT. 12 by the template 'for every input the law returns true; each argument reads behind the call as it read before'; 0 by the template 'total and deterministic' (their statements: YtcoeiimohkofjaaGreatTotals.lean).
  GIVEN WITH THE SEED: the statements are not yours to turn. If you find one false, say at which input.
  Laid BY PROGRAM, IN A SANDBOX (cutbox-rows.mjs): the forced cells as the released guide's own fill.sh prints them over the translation 00fd92745261c2b6… (all of the seat's roots in one cut). By AI agents, Wed Nov 11 2026. No macro, syntax, notation, axiom, sorry.
-/
import Derived.Test.YtcoeiimohkofjaaGreatChecked
import GoSem.Claim
import GoSem.ClaimJoined
import GoSem.ClaimMapViews
import Derived.JoinedTies
import Derived.KernelRfl
namespace Go.Proofs.YtcoeiimohkofjaaGreat
/- THE CELL 'sum', in the pinned program and in every row, IS THE sha256 OF THE DUMP (.gsa) THAT YtcoeiimohkofjaaGreatProg.lean LOADS. Nothing in Lean hashes anything: it is a label: what it is worth is what the hold of that sum in a sandbox is worth. -/
noncomputable def Tryz.pinned : Pinned := { name := "ytcoeiimohkofjaagreat", sum := "00fd92745261c2b64118aab14db36bfd2e12db27ee167d218db72f14cde0fb47", checked := Tryz.checked }
namespace Rows
def none {H : Type} : Left H := { results := [], args := [] }

/-- 'laws.FnSceneApart': WHATEVER THE INPUT: true; the input reads as it did. -/
def fnSceneApartSpec : ChangeSpec := { name := "fnSceneApart", fn := fun _ => fun
  | [d1, d2, d3, d4, d5] => { results := [.lit (.bool true)], args := [d1, d2, d3, d4, d5] }
  | _ => none }
def fnSceneApartRow : OpenClaim := { program := "ytcoeiimohkofjaagreat", sum := "00fd92745261c2b64118aab14db36bfd2e12db27ee167d218db72f14cde0fb47", func := "pub-promontory/laws.FnSceneApart", spec := "fnSceneApart", inPlace := ["math.Float64bits"], unfollowed := true, recurses := true, named := ["encoding/binary.LittleEndian"], apart := false }
def FnSceneApartSaid : Prop := fnSceneApartRow.holds Tryz.pinned (OpenSpec.ofChange fnSceneApartSpec)

/-- ITS FALSE NEIGHBOUR: 'it returns false'. Refute it at one input. -/
def fnSceneApartWrong : ChangeSpec := { name := "fnSceneApart", fn := fun _ => fun
  | [d1, d2, d3, d4, d5] => { results := [.lit (.bool false)], args := [d1, d2, d3, d4, d5] }
  | _ => none }
def FnSceneApartWrongFalsely : Prop := fnSceneApartRow.holds Tryz.pinned (OpenSpec.ofChange fnSceneApartWrong)

/-- 'laws.FnSceneChain': WHATEVER THE INPUT: true; the input reads as it did. -/
def fnSceneChainSpec : ChangeSpec := { name := "fnSceneChain", fn := fun _ => fun
  | [d1, d2, d3, d4] => { results := [.lit (.bool true)], args := [d1, d2, d3, d4] }
  | _ => none }
def fnSceneChainRow : OpenClaim := { program := "ytcoeiimohkofjaagreat", sum := "00fd92745261c2b64118aab14db36bfd2e12db27ee167d218db72f14cde0fb47", func := "pub-promontory/laws.FnSceneChain", spec := "fnSceneChain", inPlace := ["math.Float64bits"], unfollowed := true, recurses := true, named := ["encoding/binary.LittleEndian"], apart := false }
def FnSceneChainSaid : Prop := fnSceneChainRow.holds Tryz.pinned (OpenSpec.ofChange fnSceneChainSpec)

/-- ITS FALSE NEIGHBOUR: 'it returns false'. Refute it at one input. -/
def fnSceneChainWrong : ChangeSpec := { name := "fnSceneChain", fn := fun _ => fun
  | [d1, d2, d3, d4] => { results := [.lit (.bool false)], args := [d1, d2, d3, d4] }
  | _ => none }
def FnSceneChainWrongFalsely : Prop := fnSceneChainRow.holds Tryz.pinned (OpenSpec.ofChange fnSceneChainWrong)

/-- 'laws.FnSceneEdges': WHATEVER THE INPUT: true; the input reads as it did. -/
def fnSceneEdgesSpec : ChangeSpec := { name := "fnSceneEdges", fn := fun _ => fun
  | [d] => { results := [.lit (.bool true)], args := [d] }
  | _ => none }
def fnSceneEdgesRow : OpenClaim := { program := "ytcoeiimohkofjaagreat", sum := "00fd92745261c2b64118aab14db36bfd2e12db27ee167d218db72f14cde0fb47", func := "pub-promontory/laws.FnSceneEdges", spec := "fnSceneEdges", inPlace := ["math.Float64bits"], unfollowed := true, recurses := true, named := ["encoding/binary.LittleEndian"], apart := false }
def FnSceneEdgesSaid : Prop := fnSceneEdgesRow.holds Tryz.pinned (OpenSpec.ofChange fnSceneEdgesSpec)

/-- ITS FALSE NEIGHBOUR: 'it returns false'. Refute it at one input. -/
def fnSceneEdgesWrong : ChangeSpec := { name := "fnSceneEdges", fn := fun _ => fun
  | [d] => { results := [.lit (.bool false)], args := [d] }
  | _ => none }
def FnSceneEdgesWrongFalsely : Prop := fnSceneEdgesRow.holds Tryz.pinned (OpenSpec.ofChange fnSceneEdgesWrong)

/-- 'laws.FnSceneFan': WHATEVER THE INPUT: true; the input reads as it did. -/
def fnSceneFanSpec : ChangeSpec := { name := "fnSceneFan", fn := fun _ => fun
  | [d1, d2] => { results := [.lit (.bool true)], args := [d1, d2] }
  | _ => none }
def fnSceneFanRow : OpenClaim := { program := "ytcoeiimohkofjaagreat", sum := "00fd92745261c2b64118aab14db36bfd2e12db27ee167d218db72f14cde0fb47", func := "pub-promontory/laws.FnSceneFan", spec := "fnSceneFan", inPlace := ["math.Float64bits"], unfollowed := true, recurses := true, named := ["encoding/binary.LittleEndian"], apart := false }
def FnSceneFanSaid : Prop := fnSceneFanRow.holds Tryz.pinned (OpenSpec.ofChange fnSceneFanSpec)

/-- ITS FALSE NEIGHBOUR: 'it returns false'. Refute it at one input. -/
def fnSceneFanWrong : ChangeSpec := { name := "fnSceneFan", fn := fun _ => fun
  | [d1, d2] => { results := [.lit (.bool false)], args := [d1, d2] }
  | _ => none }
def FnSceneFanWrongFalsely : Prop := fnSceneFanRow.holds Tryz.pinned (OpenSpec.ofChange fnSceneFanWrong)

/-- 'laws.FnSceneHole': WHATEVER THE INPUT: true; the input reads as it did. -/
def fnSceneHoleSpec : ChangeSpec := { name := "fnSceneHole", fn := fun _ => fun
  | [d1, d2, d3] => { results := [.lit (.bool true)], args := [d1, d2, d3] }
  | _ => none }
def fnSceneHoleRow : OpenClaim := { program := "ytcoeiimohkofjaagreat", sum := "00fd92745261c2b64118aab14db36bfd2e12db27ee167d218db72f14cde0fb47", func := "pub-promontory/laws.FnSceneHole", spec := "fnSceneHole", inPlace := ["math.Float64bits"], unfollowed := true, recurses := true, named := ["encoding/binary.LittleEndian"], apart := false }
def FnSceneHoleSaid : Prop := fnSceneHoleRow.holds Tryz.pinned (OpenSpec.ofChange fnSceneHoleSpec)

/-- ITS FALSE NEIGHBOUR: 'it returns false'. Refute it at one input. -/
def fnSceneHoleWrong : ChangeSpec := { name := "fnSceneHole", fn := fun _ => fun
  | [d1, d2, d3] => { results := [.lit (.bool false)], args := [d1, d2, d3] }
  | _ => none }
def FnSceneHoleWrongFalsely : Prop := fnSceneHoleRow.holds Tryz.pinned (OpenSpec.ofChange fnSceneHoleWrong)

/-- 'laws.FnSceneLine': WHATEVER THE INPUT: true; the input reads as it did. -/
def fnSceneLineSpec : ChangeSpec := { name := "fnSceneLine", fn := fun _ => fun
  | [d1, d2] => { results := [.lit (.bool true)], args := [d1, d2] }
  | _ => none }
def fnSceneLineRow : OpenClaim := { program := "ytcoeiimohkofjaagreat", sum := "00fd92745261c2b64118aab14db36bfd2e12db27ee167d218db72f14cde0fb47", func := "pub-promontory/laws.FnSceneLine", spec := "fnSceneLine", inPlace := ["math.Float64bits"], unfollowed := true, recurses := true, named := ["encoding/binary.LittleEndian"], apart := false }
def FnSceneLineSaid : Prop := fnSceneLineRow.holds Tryz.pinned (OpenSpec.ofChange fnSceneLineSpec)

/-- ITS FALSE NEIGHBOUR: 'it returns false'. Refute it at one input. -/
def fnSceneLineWrong : ChangeSpec := { name := "fnSceneLine", fn := fun _ => fun
  | [d1, d2] => { results := [.lit (.bool false)], args := [d1, d2] }
  | _ => none }
def FnSceneLineWrongFalsely : Prop := fnSceneLineRow.holds Tryz.pinned (OpenSpec.ofChange fnSceneLineWrong)

/-- 'laws.FnSceneParts': WHATEVER THE INPUT: true; the input reads as it did. -/
def fnScenePartsSpec : ChangeSpec := { name := "fnSceneParts", fn := fun _ => fun
  | [d1, d2] => { results := [.lit (.bool true)], args := [d1, d2] }
  | _ => none }
def fnScenePartsRow : OpenClaim := { program := "ytcoeiimohkofjaagreat", sum := "00fd92745261c2b64118aab14db36bfd2e12db27ee167d218db72f14cde0fb47", func := "pub-promontory/laws.FnSceneParts", spec := "fnSceneParts", inPlace := ["math.Float64bits"], unfollowed := true, recurses := true, named := ["encoding/binary.LittleEndian"], apart := false }
def FnScenePartsSaid : Prop := fnScenePartsRow.holds Tryz.pinned (OpenSpec.ofChange fnScenePartsSpec)

/-- ITS FALSE NEIGHBOUR: 'it returns false'. Refute it at one input. -/
def fnScenePartsWrong : ChangeSpec := { name := "fnSceneParts", fn := fun _ => fun
  | [d1, d2] => { results := [.lit (.bool false)], args := [d1, d2] }
  | _ => none }
def FnScenePartsWrongFalsely : Prop := fnScenePartsRow.holds Tryz.pinned (OpenSpec.ofChange fnScenePartsWrong)

/-- 'laws.FnScenePolygons': WHATEVER THE INPUT: true; the input reads as it did. -/
def fnScenePolygonsSpec : ChangeSpec := { name := "fnScenePolygons", fn := fun _ => fun
  | [d1, d2] => { results := [.lit (.bool true)], args := [d1, d2] }
  | _ => none }
def fnScenePolygonsRow : OpenClaim := { program := "ytcoeiimohkofjaagreat", sum := "00fd92745261c2b64118aab14db36bfd2e12db27ee167d218db72f14cde0fb47", func := "pub-promontory/laws.FnScenePolygons", spec := "fnScenePolygons", inPlace := ["math.Float64bits"], unfollowed := true, recurses := true, named := ["encoding/binary.LittleEndian"], apart := false }
def FnScenePolygonsSaid : Prop := fnScenePolygonsRow.holds Tryz.pinned (OpenSpec.ofChange fnScenePolygonsSpec)

/-- ITS FALSE NEIGHBOUR: 'it returns false'. Refute it at one input. -/
def fnScenePolygonsWrong : ChangeSpec := { name := "fnScenePolygons", fn := fun _ => fun
  | [d1, d2] => { results := [.lit (.bool false)], args := [d1, d2] }
  | _ => none }
def FnScenePolygonsWrongFalsely : Prop := fnScenePolygonsRow.holds Tryz.pinned (OpenSpec.ofChange fnScenePolygonsWrong)

/-- 'laws.FnSceneRect': WHATEVER THE INPUT: true; the input reads as it did. -/
def fnSceneRectSpec : ChangeSpec := { name := "fnSceneRect", fn := fun _ => fun
  | [d1, d2] => { results := [.lit (.bool true)], args := [d1, d2] }
  | _ => none }
def fnSceneRectRow : OpenClaim := { program := "ytcoeiimohkofjaagreat", sum := "00fd92745261c2b64118aab14db36bfd2e12db27ee167d218db72f14cde0fb47", func := "pub-promontory/laws.FnSceneRect", spec := "fnSceneRect", inPlace := ["math.Float64bits"], unfollowed := true, recurses := true, named := ["encoding/binary.LittleEndian"], apart := false }
def FnSceneRectSaid : Prop := fnSceneRectRow.holds Tryz.pinned (OpenSpec.ofChange fnSceneRectSpec)

/-- ITS FALSE NEIGHBOUR: 'it returns false'. Refute it at one input. -/
def fnSceneRectWrong : ChangeSpec := { name := "fnSceneRect", fn := fun _ => fun
  | [d1, d2] => { results := [.lit (.bool false)], args := [d1, d2] }
  | _ => none }
def FnSceneRectWrongFalsely : Prop := fnSceneRectRow.holds Tryz.pinned (OpenSpec.ofChange fnSceneRectWrong)

/-- 'laws.FnSceneRectPolygon': WHATEVER THE INPUT: true; the input reads as it did. -/
def fnSceneRectPolygonSpec : ChangeSpec := { name := "fnSceneRectPolygon", fn := fun _ => fun
  | [d1, d2, d3, d4, d5] => { results := [.lit (.bool true)], args := [d1, d2, d3, d4, d5] }
  | _ => none }
def fnSceneRectPolygonRow : OpenClaim := { program := "ytcoeiimohkofjaagreat", sum := "00fd92745261c2b64118aab14db36bfd2e12db27ee167d218db72f14cde0fb47", func := "pub-promontory/laws.FnSceneRectPolygon", spec := "fnSceneRectPolygon", inPlace := ["math.Float64bits"], unfollowed := true, recurses := true, named := ["encoding/binary.LittleEndian"], apart := false }
def FnSceneRectPolygonSaid : Prop := fnSceneRectPolygonRow.holds Tryz.pinned (OpenSpec.ofChange fnSceneRectPolygonSpec)

/-- ITS FALSE NEIGHBOUR: 'it returns false'. Refute it at one input. -/
def fnSceneRectPolygonWrong : ChangeSpec := { name := "fnSceneRectPolygon", fn := fun _ => fun
  | [d1, d2, d3, d4, d5] => { results := [.lit (.bool false)], args := [d1, d2, d3, d4, d5] }
  | _ => none }
def FnSceneRectPolygonWrongFalsely : Prop := fnSceneRectPolygonRow.holds Tryz.pinned (OpenSpec.ofChange fnSceneRectPolygonWrong)

/-- 'laws.FnSceneSplit': WHATEVER THE INPUT: true; the input reads as it did. -/
def fnSceneSplitSpec : ChangeSpec := { name := "fnSceneSplit", fn := fun _ => fun
  | [d1, d2, d3] => { results := [.lit (.bool true)], args := [d1, d2, d3] }
  | _ => none }
def fnSceneSplitRow : OpenClaim := { program := "ytcoeiimohkofjaagreat", sum := "00fd92745261c2b64118aab14db36bfd2e12db27ee167d218db72f14cde0fb47", func := "pub-promontory/laws.FnSceneSplit", spec := "fnSceneSplit", inPlace := ["math.Float64bits"], unfollowed := true, recurses := true, named := ["encoding/binary.LittleEndian"], apart := false }
def FnSceneSplitSaid : Prop := fnSceneSplitRow.holds Tryz.pinned (OpenSpec.ofChange fnSceneSplitSpec)

/-- ITS FALSE NEIGHBOUR: 'it returns false'. Refute it at one input. -/
def fnSceneSplitWrong : ChangeSpec := { name := "fnSceneSplit", fn := fun _ => fun
  | [d1, d2, d3] => { results := [.lit (.bool false)], args := [d1, d2, d3] }
  | _ => none }
def FnSceneSplitWrongFalsely : Prop := fnSceneSplitRow.holds Tryz.pinned (OpenSpec.ofChange fnSceneSplitWrong)

/-- 'laws.FnSceneAgree': WHATEVER THE INPUT: true; the input reads as it did. -/
def fnSceneAgreeSpec : ChangeSpec := { name := "fnSceneAgree", fn := fun _ => fun
  | [d1, d2, d3, d4, d5] => { results := [.lit (.bool true)], args := [d1, d2, d3, d4, d5] }
  | _ => none }
def fnSceneAgreeRow : OpenClaim := { program := "ytcoeiimohkofjaagreat", sum := "00fd92745261c2b64118aab14db36bfd2e12db27ee167d218db72f14cde0fb47", func := "pub-promontory/laws.FnSceneAgree", spec := "fnSceneAgree", inPlace := ["math.Float64bits"], unfollowed := true, recurses := true, named := ["encoding/binary.LittleEndian"], apart := false }
def FnSceneAgreeSaid : Prop := fnSceneAgreeRow.holds Tryz.pinned (OpenSpec.ofChange fnSceneAgreeSpec)

/-- ITS FALSE NEIGHBOUR: 'it returns false'. Refute it at one input. -/
def fnSceneAgreeWrong : ChangeSpec := { name := "fnSceneAgree", fn := fun _ => fun
  | [d1, d2, d3, d4, d5] => { results := [.lit (.bool false)], args := [d1, d2, d3, d4, d5] }
  | _ => none }
def FnSceneAgreeWrongFalsely : Prop := fnSceneAgreeRow.holds Tryz.pinned (OpenSpec.ofChange fnSceneAgreeWrong)

/- THE SECOND FORM. 'bulk': how many values and letters a reading holds, each counted each time it is reached (what is shared counts as often as it is met; a slice's spare places count too). A statement '..UptoSaid' is the law's where the arguments, and the package variables that the reading takes, are together of bulk at most 1048576: NARROWER than '..Said'. Prove '..Said' where nothing that the law and all that it calls make is longer than what came in: it says more and counts as full. Else prove '..UptoSaid'. A law counts once. -/
mutual
def uptoBulk {H : Type} : DataW H → Nat
  | .lit (.string bytes) => bytes.length + 1
  | .lit _ => 1
  | .nil => 1
  | .ptr d => uptoBulk d + 1
  | .slice elems spare => uptoBulkAll elems + uptoBulkAll spare + 1
  | .agg parts => uptoBulkAll parts + 1
  | .iface _ d => uptoBulk d + 1
  | .map entries => uptoBulkEntries entries + 1
  | .held _ => 1
def uptoBulkAll {H : Type} : List (DataW H) → Nat
  | [] => 0
  | d :: r => uptoBulk d + uptoBulkAll r
def uptoBulkEntries {H : Type} : List (Lit × DataW H) → Nat
  | [] => 0
  | x :: r => uptoBulkEntry x + uptoBulkEntries r
def uptoBulkEntry {H : Type} : Lit × DataW H → Nat
  | (.string bytes, d) => bytes.length + uptoBulk d + 1
  | (_, d) => uptoBulk d + 1
 end
def uptoSmall : (H : Type) → List (DataW H) → Bool := fun _ ds => decide (uptoBulkAll ds ≤ 1048576)
def OpenSpec.upto (s : _root_.Go.ChangeSpec) : _root_.Go.OpenSpec := { _root_.Go.OpenSpec.ofChange s with cond := some uptoSmall }

/-- 'laws.FnSceneApart', WHERE WHAT IT READS IS OF BULK AT MOST 1048576: true; the input reads as it did. -/
def fnSceneApartUptoRow : OpenClaim := { program := "ytcoeiimohkofjaagreat", sum := "00fd92745261c2b64118aab14db36bfd2e12db27ee167d218db72f14cde0fb47", func := "pub-promontory/laws.FnSceneApart", spec := "fnSceneApart", inPlace := ["math.Float64bits"], unfollowed := true, recurses := true, named := ["encoding/binary.LittleEndian"], apart := false, narrowed := true }
def FnSceneApartUptoSaid : Prop := fnSceneApartUptoRow.holds Tryz.pinned (OpenSpec.upto fnSceneApartSpec)

/-- 'laws.FnSceneChain', WHERE WHAT IT READS IS OF BULK AT MOST 1048576: true; the input reads as it did. -/
def fnSceneChainUptoRow : OpenClaim := { program := "ytcoeiimohkofjaagreat", sum := "00fd92745261c2b64118aab14db36bfd2e12db27ee167d218db72f14cde0fb47", func := "pub-promontory/laws.FnSceneChain", spec := "fnSceneChain", inPlace := ["math.Float64bits"], unfollowed := true, recurses := true, named := ["encoding/binary.LittleEndian"], apart := false, narrowed := true }
def FnSceneChainUptoSaid : Prop := fnSceneChainUptoRow.holds Tryz.pinned (OpenSpec.upto fnSceneChainSpec)

/-- 'laws.FnSceneEdges', WHERE WHAT IT READS IS OF BULK AT MOST 1048576: true; the input reads as it did. -/
def fnSceneEdgesUptoRow : OpenClaim := { program := "ytcoeiimohkofjaagreat", sum := "00fd92745261c2b64118aab14db36bfd2e12db27ee167d218db72f14cde0fb47", func := "pub-promontory/laws.FnSceneEdges", spec := "fnSceneEdges", inPlace := ["math.Float64bits"], unfollowed := true, recurses := true, named := ["encoding/binary.LittleEndian"], apart := false, narrowed := true }
def FnSceneEdgesUptoSaid : Prop := fnSceneEdgesUptoRow.holds Tryz.pinned (OpenSpec.upto fnSceneEdgesSpec)

/-- 'laws.FnSceneFan', WHERE WHAT IT READS IS OF BULK AT MOST 1048576: true; the input reads as it did. -/
def fnSceneFanUptoRow : OpenClaim := { program := "ytcoeiimohkofjaagreat", sum := "00fd92745261c2b64118aab14db36bfd2e12db27ee167d218db72f14cde0fb47", func := "pub-promontory/laws.FnSceneFan", spec := "fnSceneFan", inPlace := ["math.Float64bits"], unfollowed := true, recurses := true, named := ["encoding/binary.LittleEndian"], apart := false, narrowed := true }
def FnSceneFanUptoSaid : Prop := fnSceneFanUptoRow.holds Tryz.pinned (OpenSpec.upto fnSceneFanSpec)

/-- 'laws.FnSceneHole', WHERE WHAT IT READS IS OF BULK AT MOST 1048576: true; the input reads as it did. -/
def fnSceneHoleUptoRow : OpenClaim := { program := "ytcoeiimohkofjaagreat", sum := "00fd92745261c2b64118aab14db36bfd2e12db27ee167d218db72f14cde0fb47", func := "pub-promontory/laws.FnSceneHole", spec := "fnSceneHole", inPlace := ["math.Float64bits"], unfollowed := true, recurses := true, named := ["encoding/binary.LittleEndian"], apart := false, narrowed := true }
def FnSceneHoleUptoSaid : Prop := fnSceneHoleUptoRow.holds Tryz.pinned (OpenSpec.upto fnSceneHoleSpec)

/-- 'laws.FnSceneLine', WHERE WHAT IT READS IS OF BULK AT MOST 1048576: true; the input reads as it did. -/
def fnSceneLineUptoRow : OpenClaim := { program := "ytcoeiimohkofjaagreat", sum := "00fd92745261c2b64118aab14db36bfd2e12db27ee167d218db72f14cde0fb47", func := "pub-promontory/laws.FnSceneLine", spec := "fnSceneLine", inPlace := ["math.Float64bits"], unfollowed := true, recurses := true, named := ["encoding/binary.LittleEndian"], apart := false, narrowed := true }
def FnSceneLineUptoSaid : Prop := fnSceneLineUptoRow.holds Tryz.pinned (OpenSpec.upto fnSceneLineSpec)

/-- 'laws.FnSceneParts', WHERE WHAT IT READS IS OF BULK AT MOST 1048576: true; the input reads as it did. -/
def fnScenePartsUptoRow : OpenClaim := { program := "ytcoeiimohkofjaagreat", sum := "00fd92745261c2b64118aab14db36bfd2e12db27ee167d218db72f14cde0fb47", func := "pub-promontory/laws.FnSceneParts", spec := "fnSceneParts", inPlace := ["math.Float64bits"], unfollowed := true, recurses := true, named := ["encoding/binary.LittleEndian"], apart := false, narrowed := true }
def FnScenePartsUptoSaid : Prop := fnScenePartsUptoRow.holds Tryz.pinned (OpenSpec.upto fnScenePartsSpec)

/-- 'laws.FnScenePolygons', WHERE WHAT IT READS IS OF BULK AT MOST 1048576: true; the input reads as it did. -/
def fnScenePolygonsUptoRow : OpenClaim := { program := "ytcoeiimohkofjaagreat", sum := "00fd92745261c2b64118aab14db36bfd2e12db27ee167d218db72f14cde0fb47", func := "pub-promontory/laws.FnScenePolygons", spec := "fnScenePolygons", inPlace := ["math.Float64bits"], unfollowed := true, recurses := true, named := ["encoding/binary.LittleEndian"], apart := false, narrowed := true }
def FnScenePolygonsUptoSaid : Prop := fnScenePolygonsUptoRow.holds Tryz.pinned (OpenSpec.upto fnScenePolygonsSpec)

/-- 'laws.FnSceneRect', WHERE WHAT IT READS IS OF BULK AT MOST 1048576: true; the input reads as it did. -/
def fnSceneRectUptoRow : OpenClaim := { program := "ytcoeiimohkofjaagreat", sum := "00fd92745261c2b64118aab14db36bfd2e12db27ee167d218db72f14cde0fb47", func := "pub-promontory/laws.FnSceneRect", spec := "fnSceneRect", inPlace := ["math.Float64bits"], unfollowed := true, recurses := true, named := ["encoding/binary.LittleEndian"], apart := false, narrowed := true }
def FnSceneRectUptoSaid : Prop := fnSceneRectUptoRow.holds Tryz.pinned (OpenSpec.upto fnSceneRectSpec)

/-- 'laws.FnSceneRectPolygon', WHERE WHAT IT READS IS OF BULK AT MOST 1048576: true; the input reads as it did. -/
def fnSceneRectPolygonUptoRow : OpenClaim := { program := "ytcoeiimohkofjaagreat", sum := "00fd92745261c2b64118aab14db36bfd2e12db27ee167d218db72f14cde0fb47", func := "pub-promontory/laws.FnSceneRectPolygon", spec := "fnSceneRectPolygon", inPlace := ["math.Float64bits"], unfollowed := true, recurses := true, named := ["encoding/binary.LittleEndian"], apart := false, narrowed := true }
def FnSceneRectPolygonUptoSaid : Prop := fnSceneRectPolygonUptoRow.holds Tryz.pinned (OpenSpec.upto fnSceneRectPolygonSpec)

/-- 'laws.FnSceneSplit', WHERE WHAT IT READS IS OF BULK AT MOST 1048576: true; the input reads as it did. -/
def fnSceneSplitUptoRow : OpenClaim := { program := "ytcoeiimohkofjaagreat", sum := "00fd92745261c2b64118aab14db36bfd2e12db27ee167d218db72f14cde0fb47", func := "pub-promontory/laws.FnSceneSplit", spec := "fnSceneSplit", inPlace := ["math.Float64bits"], unfollowed := true, recurses := true, named := ["encoding/binary.LittleEndian"], apart := false, narrowed := true }
def FnSceneSplitUptoSaid : Prop := fnSceneSplitUptoRow.holds Tryz.pinned (OpenSpec.upto fnSceneSplitSpec)

/-- 'laws.FnSceneAgree', WHERE WHAT IT READS IS OF BULK AT MOST 1048576: true; the input reads as it did. -/
def fnSceneAgreeUptoRow : OpenClaim := { program := "ytcoeiimohkofjaagreat", sum := "00fd92745261c2b64118aab14db36bfd2e12db27ee167d218db72f14cde0fb47", func := "pub-promontory/laws.FnSceneAgree", spec := "fnSceneAgree", inPlace := ["math.Float64bits"], unfollowed := true, recurses := true, named := ["encoding/binary.LittleEndian"], apart := false, narrowed := true }
def FnSceneAgreeUptoSaid : Prop := fnSceneAgreeUptoRow.holds Tryz.pinned (OpenSpec.upto fnSceneAgreeSpec)

end Rows
end Go.Proofs.YtcoeiimohkofjaaGreat
