/-
  No cell of these rows narrows 'for every input' (looked for: loops, veiled, ifaces, maps, wideKeys, modest, calm, conditions, laid).
  DERIVED. THE GIVEN ROWS OF THIS SEAT. 6 by the template 'for every input the law returns true; each argument reads behind the call as it read before'; 0 by the template 'total and deterministic' (their statements: YtomhegagdpaieaaTotals.lean).
  GIVEN WITH THE SEED: the statements are not yours to turn. If you find one false, say at which input.
  Laid BY PROGRAM, IN A SANDBOX (cutbox-rows.mjs): the forced cells as the released guide's own fill.sh prints them over the translation e736a4dadcd20d27… (all of the seat's roots in one cut). By AI agents, Wed Nov 11 2026. No macro, syntax, notation, axiom, sorry.
-/
import Derived.Test.YtomhegagdpaieaaChecked
import GoSem.Claim
import GoSem.ClaimJoined
import GoSem.ClaimMapViews
import Derived.JoinedTies
import Derived.KernelRfl
namespace Go.Proofs.Ytomhegagdpaieaa
/- THE CELL 'sum', in the pinned program and in every row, IS THE sha256 OF THE DUMP (.gsa) THAT YtomhegagdpaieaaProg.lean LOADS. Nothing in Lean hashes anything: it is a label: what it is worth is what the hold of that sum in a sandbox is worth. -/
noncomputable def Try.pinned : Pinned := { name := "ytomhegagdpaieaa", sum := "e736a4dadcd20d2705905dbdac5b89de698c3e254cd798155dcc352634574dde", checked := Try.checked }
namespace Rows
def none {H : Type} : Left H := { results := [], args := [] }

/-- 'laws.FnXYLessOne': WHATEVER THE INPUT: true; the input reads as it did. -/
def fnXYLessOneSpec : ChangeSpec := { name := "fnXYLessOne", fn := fun _ => fun
  | [d1, d2] => { results := [.lit (.bool true)], args := [d1, d2] }
  | _ => none }
def fnXYLessOneRow : OpenClaim := { program := "ytomhegagdpaieaa", sum := "e736a4dadcd20d2705905dbdac5b89de698c3e254cd798155dcc352634574dde", func := "pub-alidade/laws.FnXYLessOne", spec := "fnXYLessOne", inPlace := ["math.Float64bits", "math.Float64frombits"], apart := false }
def FnXYLessOneSaid : Prop := fnXYLessOneRow.holds Try.pinned (OpenSpec.ofChange fnXYLessOneSpec)

/-- ITS FALSE NEIGHBOUR: 'it returns false'. Refute it at one input. -/
def fnXYLessOneWrong : ChangeSpec := { name := "fnXYLessOne", fn := fun _ => fun
  | [d1, d2] => { results := [.lit (.bool false)], args := [d1, d2] }
  | _ => none }
def FnXYLessOneWrongFalsely : Prop := fnXYLessOneRow.holds Try.pinned (OpenSpec.ofChange fnXYLessOneWrong)

/-- 'laws.FnReadUvarintBack': WHATEVER THE INPUT: true; the input reads as it did. -/
def fnReadUvarintBackSpec : ChangeSpec := { name := "fnReadUvarintBack", fn := fun _ => fun
  | [d1, d2] => { results := [.lit (.bool true)], args := [d1, d2] }
  | _ => none }
def fnReadUvarintBackRow : OpenClaim := { program := "ytomhegagdpaieaa", sum := "e736a4dadcd20d2705905dbdac5b89de698c3e254cd798155dcc352634574dde", func := "pub-alidade/laws.FnReadUvarintBack", spec := "fnReadUvarintBack", apart := false }
def FnReadUvarintBackSaid : Prop := fnReadUvarintBackRow.holds Try.pinned (OpenSpec.ofChange fnReadUvarintBackSpec)

/-- ITS FALSE NEIGHBOUR: 'it returns false'. Refute it at one input. -/
def fnReadUvarintBackWrong : ChangeSpec := { name := "fnReadUvarintBack", fn := fun _ => fun
  | [d1, d2] => { results := [.lit (.bool false)], args := [d1, d2] }
  | _ => none }
def FnReadUvarintBackWrongFalsely : Prop := fnReadUvarintBackRow.holds Try.pinned (OpenSpec.ofChange fnReadUvarintBackWrong)

/-- 'laws.FnNewSequence': WHATEVER THE INPUT: true; the input reads as it did. -/
def fnNewSequenceSpec : ChangeSpec := { name := "fnNewSequence", fn := fun _ => fun
  | [d1, d2] => { results := [.lit (.bool true)], args := [d1, d2] }
  | _ => none }
def fnNewSequenceRow : OpenClaim := { program := "ytomhegagdpaieaa", sum := "e736a4dadcd20d2705905dbdac5b89de698c3e254cd798155dcc352634574dde", func := "pub-alidade/laws.FnNewSequence", spec := "fnNewSequence", inPlace := ["math.Float64bits"], unfollowed := true, recurses := true, apart := false }
def FnNewSequenceSaid : Prop := fnNewSequenceRow.holds Try.pinned (OpenSpec.ofChange fnNewSequenceSpec)

/-- ITS FALSE NEIGHBOUR: 'it returns false'. Refute it at one input. -/
def fnNewSequenceWrong : ChangeSpec := { name := "fnNewSequence", fn := fun _ => fun
  | [d1, d2] => { results := [.lit (.bool false)], args := [d1, d2] }
  | _ => none }
def FnNewSequenceWrongFalsely : Prop := fnNewSequenceRow.holds Try.pinned (OpenSpec.ofChange fnNewSequenceWrong)

/-- 'laws.FnItemsLevel': WHATEVER THE INPUT: true; the input reads as it did. -/
def fnItemsLevelSpec : ChangeSpec := { name := "fnItemsLevel", fn := fun _ => fun
  | [d] => { results := [.lit (.bool true)], args := [d] }
  | _ => none }
def fnItemsLevelRow : OpenClaim := { program := "ytomhegagdpaieaa", sum := "e736a4dadcd20d2705905dbdac5b89de698c3e254cd798155dcc352634574dde", func := "pub-alidade/laws.FnItemsLevel", spec := "fnItemsLevel", inPlace := ["math.archTrunc", "math.Float64bits", "math.Float64frombits"], apart := false }
def FnItemsLevelSaid : Prop := fnItemsLevelRow.holds Try.pinned (OpenSpec.ofChange fnItemsLevelSpec)

/-- ITS FALSE NEIGHBOUR: 'it returns false'. Refute it at one input. -/
def fnItemsLevelWrong : ChangeSpec := { name := "fnItemsLevel", fn := fun _ => fun
  | [d] => { results := [.lit (.bool false)], args := [d] }
  | _ => none }
def FnItemsLevelWrongFalsely : Prop := fnItemsLevelRow.holds Try.pinned (OpenSpec.ofChange fnItemsLevelWrong)

/-- 'laws.FnNewEnvelopeSteps': WHATEVER THE INPUT: true; the input reads as it did. -/
def fnNewEnvelopeStepsSpec : ChangeSpec := { name := "fnNewEnvelopeSteps", fn := fun _ => fun
  | [d] => { results := [.lit (.bool true)], args := [d] }
  | _ => none }
def fnNewEnvelopeStepsRow : OpenClaim := { program := "ytomhegagdpaieaa", sum := "e736a4dadcd20d2705905dbdac5b89de698c3e254cd798155dcc352634574dde", func := "pub-alidade/laws.FnNewEnvelopeSteps", spec := "fnNewEnvelopeSteps", inPlace := ["math.Float64bits", "math.Float64frombits"], apart := false }
def FnNewEnvelopeStepsSaid : Prop := fnNewEnvelopeStepsRow.holds Try.pinned (OpenSpec.ofChange fnNewEnvelopeStepsSpec)

/-- ITS FALSE NEIGHBOUR: 'it returns false'. Refute it at one input. -/
def fnNewEnvelopeStepsWrong : ChangeSpec := { name := "fnNewEnvelopeSteps", fn := fun _ => fun
  | [d] => { results := [.lit (.bool false)], args := [d] }
  | _ => none }
def FnNewEnvelopeStepsWrongFalsely : Prop := fnNewEnvelopeStepsRow.holds Try.pinned (OpenSpec.ofChange fnNewEnvelopeStepsWrong)

/-- 'laws.FnEnvExpand': WHATEVER THE INPUT: true; the input reads as it did. -/
def fnEnvExpandSpec : ChangeSpec := { name := "fnEnvExpand", fn := fun _ => fun
  | [d1, d2] => { results := [.lit (.bool true)], args := [d1, d2] }
  | _ => none }
def fnEnvExpandRow : OpenClaim := { program := "ytomhegagdpaieaa", sum := "e736a4dadcd20d2705905dbdac5b89de698c3e254cd798155dcc352634574dde", func := "pub-alidade/laws.FnEnvExpand", spec := "fnEnvExpand", inPlace := ["math.Float64bits", "math.Float64frombits"], apart := false }
def FnEnvExpandSaid : Prop := fnEnvExpandRow.holds Try.pinned (OpenSpec.ofChange fnEnvExpandSpec)

/-- ITS FALSE NEIGHBOUR: 'it returns false'. Refute it at one input. -/
def fnEnvExpandWrong : ChangeSpec := { name := "fnEnvExpand", fn := fun _ => fun
  | [d1, d2] => { results := [.lit (.bool false)], args := [d1, d2] }
  | _ => none }
def FnEnvExpandWrongFalsely : Prop := fnEnvExpandRow.holds Try.pinned (OpenSpec.ofChange fnEnvExpandWrong)

/- THE SECOND FORM. 'bulk': how many values and letters a reading holds, each counted each time it is reached (what is shared counts as often as it is met; a slice's spare places count too). A statement '..UptoSaid' is the law's where the arguments, and the package variables that the reading takes, are together of bulk at most 1048576: NARROWER than '..Said'. Prove '..Said' where nothing that the law and all that it calls make is longer than what came in: it says more and counts as full. Else prove '..UptoSaid'. A law counts once. -/
mutual
def uptoBulk {H : Type} : DataW H → Nat
  | .lit (.string bytes) => bytes.length + 1
  | .lit _ => 1
  | .nil => 1
  | .ptr d => uptoBulk d + 1
  | .slice elems spare => uptoBulkAll elems + uptoBulkAll spare + 1
  | .agg parts => uptoBulkAll parts + 1
  | .iface _ d => uptoBulk d + 1
  | .map entries => uptoBulkEntries entries + 1
  | .held _ => 1
def uptoBulkAll {H : Type} : List (DataW H) → Nat
  | [] => 0
  | d :: r => uptoBulk d + uptoBulkAll r
def uptoBulkEntries {H : Type} : List (Lit × DataW H) → Nat
  | [] => 0
  | x :: r => uptoBulkEntry x + uptoBulkEntries r
def uptoBulkEntry {H : Type} : Lit × DataW H → Nat
  | (.string bytes, d) => bytes.length + uptoBulk d + 1
  | (_, d) => uptoBulk d + 1
 end
def uptoSmall : (H : Type) → List (DataW H) → Bool := fun _ ds => decide (uptoBulkAll ds ≤ 1048576)
def OpenSpec.upto (s : _root_.Go.ChangeSpec) : _root_.Go.OpenSpec := { _root_.Go.OpenSpec.ofChange s with cond := some uptoSmall }

/-- 'laws.FnXYLessOne', WHERE WHAT IT READS IS OF BULK AT MOST 1048576: true; the input reads as it did. -/
def fnXYLessOneUptoRow : OpenClaim := { program := "ytomhegagdpaieaa", sum := "e736a4dadcd20d2705905dbdac5b89de698c3e254cd798155dcc352634574dde", func := "pub-alidade/laws.FnXYLessOne", spec := "fnXYLessOne", inPlace := ["math.Float64bits", "math.Float64frombits"], apart := false, narrowed := true }
def FnXYLessOneUptoSaid : Prop := fnXYLessOneUptoRow.holds Try.pinned (OpenSpec.upto fnXYLessOneSpec)

/-- 'laws.FnReadUvarintBack', WHERE WHAT IT READS IS OF BULK AT MOST 1048576: true; the input reads as it did. -/
def fnReadUvarintBackUptoRow : OpenClaim := { program := "ytomhegagdpaieaa", sum := "e736a4dadcd20d2705905dbdac5b89de698c3e254cd798155dcc352634574dde", func := "pub-alidade/laws.FnReadUvarintBack", spec := "fnReadUvarintBack", apart := false, narrowed := true }
def FnReadUvarintBackUptoSaid : Prop := fnReadUvarintBackUptoRow.holds Try.pinned (OpenSpec.upto fnReadUvarintBackSpec)

/-- 'laws.FnNewSequence', WHERE WHAT IT READS IS OF BULK AT MOST 1048576: true; the input reads as it did. -/
def fnNewSequenceUptoRow : OpenClaim := { program := "ytomhegagdpaieaa", sum := "e736a4dadcd20d2705905dbdac5b89de698c3e254cd798155dcc352634574dde", func := "pub-alidade/laws.FnNewSequence", spec := "fnNewSequence", inPlace := ["math.Float64bits"], unfollowed := true, recurses := true, apart := false, narrowed := true }
def FnNewSequenceUptoSaid : Prop := fnNewSequenceUptoRow.holds Try.pinned (OpenSpec.upto fnNewSequenceSpec)

/-- 'laws.FnItemsLevel', WHERE WHAT IT READS IS OF BULK AT MOST 1048576: true; the input reads as it did. -/
def fnItemsLevelUptoRow : OpenClaim := { program := "ytomhegagdpaieaa", sum := "e736a4dadcd20d2705905dbdac5b89de698c3e254cd798155dcc352634574dde", func := "pub-alidade/laws.FnItemsLevel", spec := "fnItemsLevel", inPlace := ["math.archTrunc", "math.Float64bits", "math.Float64frombits"], apart := false, narrowed := true }
def FnItemsLevelUptoSaid : Prop := fnItemsLevelUptoRow.holds Try.pinned (OpenSpec.upto fnItemsLevelSpec)

/-- 'laws.FnNewEnvelopeSteps', WHERE WHAT IT READS IS OF BULK AT MOST 1048576: true; the input reads as it did. -/
def fnNewEnvelopeStepsUptoRow : OpenClaim := { program := "ytomhegagdpaieaa", sum := "e736a4dadcd20d2705905dbdac5b89de698c3e254cd798155dcc352634574dde", func := "pub-alidade/laws.FnNewEnvelopeSteps", spec := "fnNewEnvelopeSteps", inPlace := ["math.Float64bits", "math.Float64frombits"], apart := false, narrowed := true }
def FnNewEnvelopeStepsUptoSaid : Prop := fnNewEnvelopeStepsUptoRow.holds Try.pinned (OpenSpec.upto fnNewEnvelopeStepsSpec)

/-- 'laws.FnEnvExpand', WHERE WHAT IT READS IS OF BULK AT MOST 1048576: true; the input reads as it did. -/
def fnEnvExpandUptoRow : OpenClaim := { program := "ytomhegagdpaieaa", sum := "e736a4dadcd20d2705905dbdac5b89de698c3e254cd798155dcc352634574dde", func := "pub-alidade/laws.FnEnvExpand", spec := "fnEnvExpand", inPlace := ["math.Float64bits", "math.Float64frombits"], apart := false, narrowed := true }
def FnEnvExpandUptoSaid : Prop := fnEnvExpandUptoRow.holds Try.pinned (OpenSpec.upto fnEnvExpandSpec)

end Rows
end Go.Proofs.Ytomhegagdpaieaa
