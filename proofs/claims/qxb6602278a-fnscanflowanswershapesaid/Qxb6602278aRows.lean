/-
  No cell of these rows narrows 'for every input' (looked for: loops, veiled, ifaces, maps, wideKeys, modest, calm, conditions, laid).
  DERIVED. THE GIVEN ROWS OF THIS SEAT. 4 by the template 'for every input the law returns true; each argument reads behind the call as it read before'; 0 by the template 'total and deterministic' (their statements: Qxb6602278aTotals.lean).
  GIVEN WITH THE SEED: the statements are not yours to turn. If you find one false, say at which input.
  Laid BY PROGRAM, IN A SANDBOX (cutbox-rows.mjs): the forced cells as the released guide's own fill.sh prints them over the translation 9cf280fc3bbdc46f… (all of the seat's roots in one cut). By AI agents, Wed Nov 11 2026. No macro, syntax, notation, axiom, sorry.
-/
import Derived.Test.Qxb6602278aChecked
import GoSem.Claim
import GoSem.ClaimJoined
import GoSem.ClaimMapViews
import Derived.JoinedTies
import Derived.KernelRfl
namespace Go.Proofs.Qxb6602278a
/- THE CELL 'sum', in the pinned program and in every row, IS THE sha256 OF THE DUMP (.gsa) THAT Qxb6602278aProg.lean LOADS. Nothing in Lean hashes anything: it is a label: what it is worth is what the hold of that sum in a sandbox is worth. -/
noncomputable def Try.pinned : Pinned := { name := "qxb6602278a", sum := "9cf280fc3bbdc46f4a43c9871f6cc5402783699db0b28ca774229570bef2970a", checked := Try.checked }
namespace Rows
def none {H : Type} : Left H := { results := [], args := [] }

/-- 'zzlaws_root_b1.FnNumberTagMatchesCoreSchema': WHATEVER THE INPUT: true; the input reads as it did. -/
def fnNumberTagMatchesCoreSchemaSpec : ChangeSpec := { name := "fnNumberTagMatchesCoreSchema", fn := fun _ => fun
  | [d] => { results := [.lit (.bool true)], args := [d] }
  | _ => none }
def fnNumberTagMatchesCoreSchemaRow : OpenClaim := { program := "qxb6602278a", sum := "9cf280fc3bbdc46f4a43c9871f6cc5402783699db0b28ca774229570bef2970a", func := "example.com/gantry/gantry/zzlaws_root_b1.FnNumberTagMatchesCoreSchema", spec := "fnNumberTagMatchesCoreSchema", apart := false }
def FnNumberTagMatchesCoreSchemaSaid : Prop := fnNumberTagMatchesCoreSchemaRow.holds Try.pinned (OpenSpec.ofChange fnNumberTagMatchesCoreSchemaSpec)

/-- ITS FALSE NEIGHBOUR: 'it returns false'. Refute it at one input. -/
def fnNumberTagMatchesCoreSchemaWrong : ChangeSpec := { name := "fnNumberTagMatchesCoreSchema", fn := fun _ => fun
  | [d] => { results := [.lit (.bool false)], args := [d] }
  | _ => none }
def FnNumberTagMatchesCoreSchemaWrongFalsely : Prop := fnNumberTagMatchesCoreSchemaRow.holds Try.pinned (OpenSpec.ofChange fnNumberTagMatchesCoreSchemaWrong)

/-- 'zzlaws_root_b1.FnNumberTagSignedForms': WHATEVER THE INPUT: true; the input reads as it did. -/
def fnNumberTagSignedFormsSpec : ChangeSpec := { name := "fnNumberTagSignedForms", fn := fun _ => fun
  | [d] => { results := [.lit (.bool true)], args := [d] }
  | _ => none }
def fnNumberTagSignedFormsRow : OpenClaim := { program := "qxb6602278a", sum := "9cf280fc3bbdc46f4a43c9871f6cc5402783699db0b28ca774229570bef2970a", func := "example.com/gantry/gantry/zzlaws_root_b1.FnNumberTagSignedForms", spec := "fnNumberTagSignedForms", apart := false }
def FnNumberTagSignedFormsSaid : Prop := fnNumberTagSignedFormsRow.holds Try.pinned (OpenSpec.ofChange fnNumberTagSignedFormsSpec)

/-- ITS FALSE NEIGHBOUR: 'it returns false'. Refute it at one input. -/
def fnNumberTagSignedFormsWrong : ChangeSpec := { name := "fnNumberTagSignedForms", fn := fun _ => fun
  | [d] => { results := [.lit (.bool false)], args := [d] }
  | _ => none }
def FnNumberTagSignedFormsWrongFalsely : Prop := fnNumberTagSignedFormsRow.holds Try.pinned (OpenSpec.ofChange fnNumberTagSignedFormsWrong)

/-- 'zzlaws_root_b1.FnScanFlowAnswerShape': WHATEVER THE INPUT: true; the input reads as it did. -/
def fnScanFlowAnswerShapeSpec : ChangeSpec := { name := "fnScanFlowAnswerShape", fn := fun _ => fun
  | [d1, d2] => { results := [.lit (.bool true)], args := [d1, d2] }
  | _ => none }
def fnScanFlowAnswerShapeRow : OpenClaim := { program := "qxb6602278a", sum := "9cf280fc3bbdc46f4a43c9871f6cc5402783699db0b28ca774229570bef2970a", func := "example.com/gantry/gantry/zzlaws_root_b1.FnScanFlowAnswerShape", spec := "fnScanFlowAnswerShape", inPlace := ["internal/bytealg.IndexByte"], apart := false }
def FnScanFlowAnswerShapeSaid : Prop := fnScanFlowAnswerShapeRow.holds Try.pinned (OpenSpec.ofChange fnScanFlowAnswerShapeSpec)

/-- ITS FALSE NEIGHBOUR: 'it returns false'. Refute it at one input. -/
def fnScanFlowAnswerShapeWrong : ChangeSpec := { name := "fnScanFlowAnswerShape", fn := fun _ => fun
  | [d1, d2] => { results := [.lit (.bool false)], args := [d1, d2] }
  | _ => none }
def FnScanFlowAnswerShapeWrongFalsely : Prop := fnScanFlowAnswerShapeRow.holds Try.pinned (OpenSpec.ofChange fnScanFlowAnswerShapeWrong)

/-- 'zzlaws_root_b1.FnScanFlowReadsOnlyItsCollection': WHATEVER THE INPUT: true; the input reads as it did. -/
def fnScanFlowReadsOnlyItsCollectionSpec : ChangeSpec := { name := "fnScanFlowReadsOnlyItsCollection", fn := fun _ => fun
  | [d1, d2, d3, d4] => { results := [.lit (.bool true)], args := [d1, d2, d3, d4] }
  | _ => none }
def fnScanFlowReadsOnlyItsCollectionRow : OpenClaim := { program := "qxb6602278a", sum := "9cf280fc3bbdc46f4a43c9871f6cc5402783699db0b28ca774229570bef2970a", func := "example.com/gantry/gantry/zzlaws_root_b1.FnScanFlowReadsOnlyItsCollection", spec := "fnScanFlowReadsOnlyItsCollection", inPlace := ["internal/bytealg.IndexByte"], apart := false }
def FnScanFlowReadsOnlyItsCollectionSaid : Prop := fnScanFlowReadsOnlyItsCollectionRow.holds Try.pinned (OpenSpec.ofChange fnScanFlowReadsOnlyItsCollectionSpec)

/-- ITS FALSE NEIGHBOUR: 'it returns false'. Refute it at one input. -/
def fnScanFlowReadsOnlyItsCollectionWrong : ChangeSpec := { name := "fnScanFlowReadsOnlyItsCollection", fn := fun _ => fun
  | [d1, d2, d3, d4] => { results := [.lit (.bool false)], args := [d1, d2, d3, d4] }
  | _ => none }
def FnScanFlowReadsOnlyItsCollectionWrongFalsely : Prop := fnScanFlowReadsOnlyItsCollectionRow.holds Try.pinned (OpenSpec.ofChange fnScanFlowReadsOnlyItsCollectionWrong)

end Rows
end Go.Proofs.Qxb6602278a
