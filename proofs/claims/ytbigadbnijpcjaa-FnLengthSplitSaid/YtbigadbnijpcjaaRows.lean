/-
  NARROWER THAN 'FOR EVERY INPUT', by the rows' own cells (each row's printed sentence says how): FnStart: loops · FnMultiPointForce: loops · FnMultiPolygonPlaces: loops · FnMultiPolygonBoundary: loops · FnMultiLineLength: loops.
  DERIVED. THE GIVEN ROWS OF THIS SEAT. 10 by the template 'for every input the law returns true; each argument reads behind the call as it read before'; 0 by the template 'total and deterministic' (their statements: YtbigadbnijpcjaaTotals.lean).
  GIVEN WITH THE SEED: the statements are not yours to turn. If you find one false, say at which input.
  Laid BY PROGRAM, IN A SANDBOX (cutbox-rows.mjs): the forced cells as the released guide's own fill.sh prints them over the translation 0e3571efb126f231… (all of the seat's roots in one cut). By AI agents, Wed Nov 11 2026. No macro, syntax, notation, axiom, sorry.
-/
import Derived.Test.YtbigadbnijpcjaaChecked
import GoSem.Claim
import GoSem.ClaimJoined
import GoSem.ClaimMapViews
import Derived.JoinedTies
import Derived.KernelRfl
namespace Go.Proofs.Ytbigadbnijpcjaa
/- THE CELL 'sum', in the pinned program and in every row, IS THE sha256 OF THE DUMP (.gsa) THAT YtbigadbnijpcjaaProg.lean LOADS. Nothing in Lean hashes anything: it is a label: what it is worth is what the hold of that sum in a sandbox is worth. -/
noncomputable def Try.pinned : Pinned := { name := "ytbigadbnijpcjaa", sum := "0e3571efb126f231fff7420e2f03befbe68266df1edaf751001db49c71482453", checked := Try.checked }
namespace Rows
def none {H : Type} : Left H := { results := [], args := [] }

/-- 'laws.FnStart': WHATEVER THE INPUT: true; the input reads as it did. -/
def fnStartSpec : ChangeSpec := { name := "fnStart", fn := fun _ => fun
  | [d] => { results := [.lit (.bool true)], args := [d] }
  | _ => none }
def fnStartRow : OpenClaim := { program := "ytbigadbnijpcjaa", sum := "0e3571efb126f231fff7420e2f03befbe68266df1edaf751001db49c71482453", func := "pub-alidade/laws.FnStart", spec := "fnStart", inPlace := ["math.Float64bits"], recurses := true, loops := true, apart := false }
def FnStartSaid : Prop := fnStartRow.holds Try.pinned (OpenSpec.ofChange fnStartSpec)

/-- ITS FALSE NEIGHBOUR: 'it returns false'. Refute it at one input. -/
def fnStartWrong : ChangeSpec := { name := "fnStart", fn := fun _ => fun
  | [d] => { results := [.lit (.bool false)], args := [d] }
  | _ => none }
def FnStartWrongFalsely : Prop := fnStartRow.holds Try.pinned (OpenSpec.ofChange fnStartWrong)

/-- 'laws.FnLengthSplit': WHATEVER THE INPUT: true; the input reads as it did. -/
def fnLengthSplitSpec : ChangeSpec := { name := "fnLengthSplit", fn := fun _ => fun
  | [d1, d2] => { results := [.lit (.bool true)], args := [d1, d2] }
  | _ => none }
def fnLengthSplitRow : OpenClaim := { program := "ytbigadbnijpcjaa", sum := "0e3571efb126f231fff7420e2f03befbe68266df1edaf751001db49c71482453", func := "pub-alidade/laws.FnLengthSplit", spec := "fnLengthSplit", inPlace := ["math.sqrt", "math.Float64bits", "math.Float64frombits"], recurses := true, apart := false }
def FnLengthSplitSaid : Prop := fnLengthSplitRow.holds Try.pinned (OpenSpec.ofChange fnLengthSplitSpec)

/-- ITS FALSE NEIGHBOUR: 'it returns false'. Refute it at one input. -/
def fnLengthSplitWrong : ChangeSpec := { name := "fnLengthSplit", fn := fun _ => fun
  | [d1, d2] => { results := [.lit (.bool false)], args := [d1, d2] }
  | _ => none }
def FnLengthSplitWrongFalsely : Prop := fnLengthSplitRow.holds Try.pinned (OpenSpec.ofChange fnLengthSplitWrong)

/-- 'laws.FnMultiPointForce': WHATEVER THE INPUT: true; the input reads as it did. -/
def fnMultiPointForceSpec : ChangeSpec := { name := "fnMultiPointForce", fn := fun _ => fun
  | [d1, d2] => { results := [.lit (.bool true)], args := [d1, d2] }
  | _ => none }
def fnMultiPointForceRow : OpenClaim := { program := "ytbigadbnijpcjaa", sum := "0e3571efb126f231fff7420e2f03befbe68266df1edaf751001db49c71482453", func := "pub-alidade/laws.FnMultiPointForce", spec := "fnMultiPointForce", inPlace := ["math.Float64bits"], recurses := true, loops := true, apart := false }
def FnMultiPointForceSaid : Prop := fnMultiPointForceRow.holds Try.pinned (OpenSpec.ofChange fnMultiPointForceSpec)

/-- ITS FALSE NEIGHBOUR: 'it returns false'. Refute it at one input. -/
def fnMultiPointForceWrong : ChangeSpec := { name := "fnMultiPointForce", fn := fun _ => fun
  | [d1, d2] => { results := [.lit (.bool false)], args := [d1, d2] }
  | _ => none }
def FnMultiPointForceWrongFalsely : Prop := fnMultiPointForceRow.holds Try.pinned (OpenSpec.ofChange fnMultiPointForceWrong)

/-- 'laws.FnSegmentsDistanceTurned': WHATEVER THE INPUT: true; the input reads as it did. -/
def fnSegmentsDistanceTurnedSpec : ChangeSpec := { name := "fnSegmentsDistanceTurned", fn := fun _ => fun
  | [d1, d2, d3, d4] => { results := [.lit (.bool true)], args := [d1, d2, d3, d4] }
  | _ => none }
def fnSegmentsDistanceTurnedRow : OpenClaim := { program := "ytbigadbnijpcjaa", sum := "0e3571efb126f231fff7420e2f03befbe68266df1edaf751001db49c71482453", func := "pub-alidade/laws.FnSegmentsDistanceTurned", spec := "fnSegmentsDistanceTurned", inPlace := ["math.Float64frombits", "math.sqrt", "math.Float64bits"], recurses := true, apart := false }
def FnSegmentsDistanceTurnedSaid : Prop := fnSegmentsDistanceTurnedRow.holds Try.pinned (OpenSpec.ofChange fnSegmentsDistanceTurnedSpec)

/-- ITS FALSE NEIGHBOUR: 'it returns false'. Refute it at one input. -/
def fnSegmentsDistanceTurnedWrong : ChangeSpec := { name := "fnSegmentsDistanceTurned", fn := fun _ => fun
  | [d1, d2, d3, d4] => { results := [.lit (.bool false)], args := [d1, d2, d3, d4] }
  | _ => none }
def FnSegmentsDistanceTurnedWrongFalsely : Prop := fnSegmentsDistanceTurnedRow.holds Try.pinned (OpenSpec.ofChange fnSegmentsDistanceTurnedWrong)

/-- 'laws.FnPointInRing': WHATEVER THE INPUT: true; the input reads as it did. -/
def fnPointInRingSpec : ChangeSpec := { name := "fnPointInRing", fn := fun _ => fun
  | [d1, d2] => { results := [.lit (.bool true)], args := [d1, d2] }
  | _ => none }
def fnPointInRingRow : OpenClaim := { program := "ytbigadbnijpcjaa", sum := "0e3571efb126f231fff7420e2f03befbe68266df1edaf751001db49c71482453", func := "pub-alidade/laws.FnPointInRing", spec := "fnPointInRing", inPlace := ["math.Float64bits", "math.Float64frombits"], recurses := true, apart := false }
def FnPointInRingSaid : Prop := fnPointInRingRow.holds Try.pinned (OpenSpec.ofChange fnPointInRingSpec)

/-- ITS FALSE NEIGHBOUR: 'it returns false'. Refute it at one input. -/
def fnPointInRingWrong : ChangeSpec := { name := "fnPointInRing", fn := fun _ => fun
  | [d1, d2] => { results := [.lit (.bool false)], args := [d1, d2] }
  | _ => none }
def FnPointInRingWrongFalsely : Prop := fnPointInRingRow.holds Try.pinned (OpenSpec.ofChange fnPointInRingWrong)

/-- 'laws.FnMultiPolygonPlaces': WHATEVER THE INPUT: true; the input reads as it did. -/
def fnMultiPolygonPlacesSpec : ChangeSpec := { name := "fnMultiPolygonPlaces", fn := fun _ => fun
  | [d] => { results := [.lit (.bool true)], args := [d] }
  | _ => none }
def fnMultiPolygonPlacesRow : OpenClaim := { program := "ytbigadbnijpcjaa", sum := "0e3571efb126f231fff7420e2f03befbe68266df1edaf751001db49c71482453", func := "pub-alidade/laws.FnMultiPolygonPlaces", spec := "fnMultiPolygonPlaces", inPlace := ["math.Float64bits"], recurses := true, loops := true, apart := false }
def FnMultiPolygonPlacesSaid : Prop := fnMultiPolygonPlacesRow.holds Try.pinned (OpenSpec.ofChange fnMultiPolygonPlacesSpec)

/-- ITS FALSE NEIGHBOUR: 'it returns false'. Refute it at one input. -/
def fnMultiPolygonPlacesWrong : ChangeSpec := { name := "fnMultiPolygonPlaces", fn := fun _ => fun
  | [d] => { results := [.lit (.bool false)], args := [d] }
  | _ => none }
def FnMultiPolygonPlacesWrongFalsely : Prop := fnMultiPolygonPlacesRow.holds Try.pinned (OpenSpec.ofChange fnMultiPolygonPlacesWrong)

/-- 'laws.FnMultiLineValid': WHATEVER THE INPUT: true; the input reads as it did. -/
def fnMultiLineValidSpec : ChangeSpec := { name := "fnMultiLineValid", fn := fun _ => fun
  | [d1, d2] => { results := [.lit (.bool true)], args := [d1, d2] }
  | _ => none }
def fnMultiLineValidRow : OpenClaim := { program := "ytbigadbnijpcjaa", sum := "0e3571efb126f231fff7420e2f03befbe68266df1edaf751001db49c71482453", func := "pub-alidade/laws.FnMultiLineValid", spec := "fnMultiLineValid", inPlace := ["math.Float64bits", "math.Float64frombits"], recurses := true, apart := false }
def FnMultiLineValidSaid : Prop := fnMultiLineValidRow.holds Try.pinned (OpenSpec.ofChange fnMultiLineValidSpec)

/-- ITS FALSE NEIGHBOUR: 'it returns false'. Refute it at one input. -/
def fnMultiLineValidWrong : ChangeSpec := { name := "fnMultiLineValid", fn := fun _ => fun
  | [d1, d2] => { results := [.lit (.bool false)], args := [d1, d2] }
  | _ => none }
def FnMultiLineValidWrongFalsely : Prop := fnMultiLineValidRow.holds Try.pinned (OpenSpec.ofChange fnMultiLineValidWrong)

/-- 'laws.FnMultiPolygonBoundary': WHATEVER THE INPUT: true; the input reads as it did. -/
def fnMultiPolygonBoundarySpec : ChangeSpec := { name := "fnMultiPolygonBoundary", fn := fun _ => fun
  | [d] => { results := [.lit (.bool true)], args := [d] }
  | _ => none }
def fnMultiPolygonBoundaryRow : OpenClaim := { program := "ytbigadbnijpcjaa", sum := "0e3571efb126f231fff7420e2f03befbe68266df1edaf751001db49c71482453", func := "pub-alidade/laws.FnMultiPolygonBoundary", spec := "fnMultiPolygonBoundary", inPlace := ["math.Float64bits"], recurses := true, loops := true, apart := false }
def FnMultiPolygonBoundarySaid : Prop := fnMultiPolygonBoundaryRow.holds Try.pinned (OpenSpec.ofChange fnMultiPolygonBoundarySpec)

/-- ITS FALSE NEIGHBOUR: 'it returns false'. Refute it at one input. -/
def fnMultiPolygonBoundaryWrong : ChangeSpec := { name := "fnMultiPolygonBoundary", fn := fun _ => fun
  | [d] => { results := [.lit (.bool false)], args := [d] }
  | _ => none }
def FnMultiPolygonBoundaryWrongFalsely : Prop := fnMultiPolygonBoundaryRow.holds Try.pinned (OpenSpec.ofChange fnMultiPolygonBoundaryWrong)

/-- 'laws.FnMultiLineLength': WHATEVER THE INPUT: true; the input reads as it did. -/
def fnMultiLineLengthSpec : ChangeSpec := { name := "fnMultiLineLength", fn := fun _ => fun
  | [d] => { results := [.lit (.bool true)], args := [d] }
  | _ => none }
def fnMultiLineLengthRow : OpenClaim := { program := "ytbigadbnijpcjaa", sum := "0e3571efb126f231fff7420e2f03befbe68266df1edaf751001db49c71482453", func := "pub-alidade/laws.FnMultiLineLength", spec := "fnMultiLineLength", inPlace := ["math.sqrt"], recurses := true, loops := true, apart := false }
def FnMultiLineLengthSaid : Prop := fnMultiLineLengthRow.holds Try.pinned (OpenSpec.ofChange fnMultiLineLengthSpec)

/-- ITS FALSE NEIGHBOUR: 'it returns false'. Refute it at one input. -/
def fnMultiLineLengthWrong : ChangeSpec := { name := "fnMultiLineLength", fn := fun _ => fun
  | [d] => { results := [.lit (.bool false)], args := [d] }
  | _ => none }
def FnMultiLineLengthWrongFalsely : Prop := fnMultiLineLengthRow.holds Try.pinned (OpenSpec.ofChange fnMultiLineLengthWrong)

/-- 'laws.FnNodesExtent': WHATEVER THE INPUT: true; the input reads as it did. -/
def fnNodesExtentSpec : ChangeSpec := { name := "fnNodesExtent", fn := fun _ => fun
  | [d] => { results := [.lit (.bool true)], args := [d] }
  | _ => none }
def fnNodesExtentRow : OpenClaim := { program := "ytbigadbnijpcjaa", sum := "0e3571efb126f231fff7420e2f03befbe68266df1edaf751001db49c71482453", func := "pub-alidade/laws.FnNodesExtent", spec := "fnNodesExtent", inPlace := ["math.archTrunc", "math.Float64bits", "math.Float64frombits"], unfollowed := true, recurses := true, apart := false }
def FnNodesExtentSaid : Prop := fnNodesExtentRow.holds Try.pinned (OpenSpec.ofChange fnNodesExtentSpec)

/-- ITS FALSE NEIGHBOUR: 'it returns false'. Refute it at one input. -/
def fnNodesExtentWrong : ChangeSpec := { name := "fnNodesExtent", fn := fun _ => fun
  | [d] => { results := [.lit (.bool false)], args := [d] }
  | _ => none }
def FnNodesExtentWrongFalsely : Prop := fnNodesExtentRow.holds Try.pinned (OpenSpec.ofChange fnNodesExtentWrong)

/- THE SECOND FORM. 'bulk': how many values and letters a reading holds, each counted each time it is reached (what is shared counts as often as it is met; a slice's spare places count too). A statement '..UptoSaid' is the law's where the arguments, and the package variables that the reading takes, are together of bulk at most 1048576: NARROWER than '..Said'. Prove '..Said' where nothing that the law and all that it calls make is longer than what came in: it says more and counts as full. Else prove '..UptoSaid'. A law counts once. -/
mutual
def uptoBulk {H : Type} : DataW H → Nat
  | .lit (.string bytes) => bytes.length + 1
  | .lit _ => 1
  | .nil => 1
  | .ptr d => uptoBulk d + 1
  | .slice elems spare => uptoBulkAll elems + uptoBulkAll spare + 1
  | .agg parts => uptoBulkAll parts + 1
  | .iface _ d => uptoBulk d + 1
  | .map entries => uptoBulkEntries entries + 1
  | .held _ => 1
def uptoBulkAll {H : Type} : List (DataW H) → Nat
  | [] => 0
  | d :: r => uptoBulk d + uptoBulkAll r
def uptoBulkEntries {H : Type} : List (Lit × DataW H) → Nat
  | [] => 0
  | x :: r => uptoBulkEntry x + uptoBulkEntries r
def uptoBulkEntry {H : Type} : Lit × DataW H → Nat
  | (.string bytes, d) => bytes.length + uptoBulk d + 1
  | (_, d) => uptoBulk d + 1
 end
def uptoSmall : (H : Type) → List (DataW H) → Bool := fun _ ds => decide (uptoBulkAll ds ≤ 1048576)
def OpenSpec.upto (s : _root_.Go.ChangeSpec) : _root_.Go.OpenSpec := { _root_.Go.OpenSpec.ofChange s with cond := some uptoSmall }

/-- 'laws.FnStart', WHERE WHAT IT READS IS OF BULK AT MOST 1048576: true; the input reads as it did. -/
def fnStartUptoRow : OpenClaim := { program := "ytbigadbnijpcjaa", sum := "0e3571efb126f231fff7420e2f03befbe68266df1edaf751001db49c71482453", func := "pub-alidade/laws.FnStart", spec := "fnStart", inPlace := ["math.Float64bits"], recurses := true, loops := true, apart := false, narrowed := true }
def FnStartUptoSaid : Prop := fnStartUptoRow.holds Try.pinned (OpenSpec.upto fnStartSpec)

/-- 'laws.FnLengthSplit', WHERE WHAT IT READS IS OF BULK AT MOST 1048576: true; the input reads as it did. -/
def fnLengthSplitUptoRow : OpenClaim := { program := "ytbigadbnijpcjaa", sum := "0e3571efb126f231fff7420e2f03befbe68266df1edaf751001db49c71482453", func := "pub-alidade/laws.FnLengthSplit", spec := "fnLengthSplit", inPlace := ["math.sqrt", "math.Float64bits", "math.Float64frombits"], recurses := true, apart := false, narrowed := true }
def FnLengthSplitUptoSaid : Prop := fnLengthSplitUptoRow.holds Try.pinned (OpenSpec.upto fnLengthSplitSpec)

/-- 'laws.FnMultiPointForce', WHERE WHAT IT READS IS OF BULK AT MOST 1048576: true; the input reads as it did. -/
def fnMultiPointForceUptoRow : OpenClaim := { program := "ytbigadbnijpcjaa", sum := "0e3571efb126f231fff7420e2f03befbe68266df1edaf751001db49c71482453", func := "pub-alidade/laws.FnMultiPointForce", spec := "fnMultiPointForce", inPlace := ["math.Float64bits"], recurses := true, loops := true, apart := false, narrowed := true }
def FnMultiPointForceUptoSaid : Prop := fnMultiPointForceUptoRow.holds Try.pinned (OpenSpec.upto fnMultiPointForceSpec)

/-- 'laws.FnSegmentsDistanceTurned', WHERE WHAT IT READS IS OF BULK AT MOST 1048576: true; the input reads as it did. -/
def fnSegmentsDistanceTurnedUptoRow : OpenClaim := { program := "ytbigadbnijpcjaa", sum := "0e3571efb126f231fff7420e2f03befbe68266df1edaf751001db49c71482453", func := "pub-alidade/laws.FnSegmentsDistanceTurned", spec := "fnSegmentsDistanceTurned", inPlace := ["math.Float64frombits", "math.sqrt", "math.Float64bits"], recurses := true, apart := false, narrowed := true }
def FnSegmentsDistanceTurnedUptoSaid : Prop := fnSegmentsDistanceTurnedUptoRow.holds Try.pinned (OpenSpec.upto fnSegmentsDistanceTurnedSpec)

/-- 'laws.FnPointInRing', WHERE WHAT IT READS IS OF BULK AT MOST 1048576: true; the input reads as it did. -/
def fnPointInRingUptoRow : OpenClaim := { program := "ytbigadbnijpcjaa", sum := "0e3571efb126f231fff7420e2f03befbe68266df1edaf751001db49c71482453", func := "pub-alidade/laws.FnPointInRing", spec := "fnPointInRing", inPlace := ["math.Float64bits", "math.Float64frombits"], recurses := true, apart := false, narrowed := true }
def FnPointInRingUptoSaid : Prop := fnPointInRingUptoRow.holds Try.pinned (OpenSpec.upto fnPointInRingSpec)

/-- 'laws.FnMultiPolygonPlaces', WHERE WHAT IT READS IS OF BULK AT MOST 1048576: true; the input reads as it did. -/
def fnMultiPolygonPlacesUptoRow : OpenClaim := { program := "ytbigadbnijpcjaa", sum := "0e3571efb126f231fff7420e2f03befbe68266df1edaf751001db49c71482453", func := "pub-alidade/laws.FnMultiPolygonPlaces", spec := "fnMultiPolygonPlaces", inPlace := ["math.Float64bits"], recurses := true, loops := true, apart := false, narrowed := true }
def FnMultiPolygonPlacesUptoSaid : Prop := fnMultiPolygonPlacesUptoRow.holds Try.pinned (OpenSpec.upto fnMultiPolygonPlacesSpec)

/-- 'laws.FnMultiLineValid', WHERE WHAT IT READS IS OF BULK AT MOST 1048576: true; the input reads as it did. -/
def fnMultiLineValidUptoRow : OpenClaim := { program := "ytbigadbnijpcjaa", sum := "0e3571efb126f231fff7420e2f03befbe68266df1edaf751001db49c71482453", func := "pub-alidade/laws.FnMultiLineValid", spec := "fnMultiLineValid", inPlace := ["math.Float64bits", "math.Float64frombits"], recurses := true, apart := false, narrowed := true }
def FnMultiLineValidUptoSaid : Prop := fnMultiLineValidUptoRow.holds Try.pinned (OpenSpec.upto fnMultiLineValidSpec)

/-- 'laws.FnMultiPolygonBoundary', WHERE WHAT IT READS IS OF BULK AT MOST 1048576: true; the input reads as it did. -/
def fnMultiPolygonBoundaryUptoRow : OpenClaim := { program := "ytbigadbnijpcjaa", sum := "0e3571efb126f231fff7420e2f03befbe68266df1edaf751001db49c71482453", func := "pub-alidade/laws.FnMultiPolygonBoundary", spec := "fnMultiPolygonBoundary", inPlace := ["math.Float64bits"], recurses := true, loops := true, apart := false, narrowed := true }
def FnMultiPolygonBoundaryUptoSaid : Prop := fnMultiPolygonBoundaryUptoRow.holds Try.pinned (OpenSpec.upto fnMultiPolygonBoundarySpec)

/-- 'laws.FnMultiLineLength', WHERE WHAT IT READS IS OF BULK AT MOST 1048576: true; the input reads as it did. -/
def fnMultiLineLengthUptoRow : OpenClaim := { program := "ytbigadbnijpcjaa", sum := "0e3571efb126f231fff7420e2f03befbe68266df1edaf751001db49c71482453", func := "pub-alidade/laws.FnMultiLineLength", spec := "fnMultiLineLength", inPlace := ["math.sqrt"], recurses := true, loops := true, apart := false, narrowed := true }
def FnMultiLineLengthUptoSaid : Prop := fnMultiLineLengthUptoRow.holds Try.pinned (OpenSpec.upto fnMultiLineLengthSpec)

/-- 'laws.FnNodesExtent', WHERE WHAT IT READS IS OF BULK AT MOST 1048576: true; the input reads as it did. -/
def fnNodesExtentUptoRow : OpenClaim := { program := "ytbigadbnijpcjaa", sum := "0e3571efb126f231fff7420e2f03befbe68266df1edaf751001db49c71482453", func := "pub-alidade/laws.FnNodesExtent", spec := "fnNodesExtent", inPlace := ["math.archTrunc", "math.Float64bits", "math.Float64frombits"], unfollowed := true, recurses := true, apart := false, narrowed := true }
def FnNodesExtentUptoSaid : Prop := fnNodesExtentUptoRow.holds Try.pinned (OpenSpec.upto fnNodesExtentSpec)

end Rows
end Go.Proofs.Ytbigadbnijpcjaa
