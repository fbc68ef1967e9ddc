/-
  No cell of these rows narrows 'for every input' (looked for: loops, veiled, ifaces, maps, wideKeys, modest, calm, conditions, laid).
  DERIVED. THE GIVEN ROWS OF THIS SEAT. 9 by the template 'for every input the law returns true; each argument reads behind the call as it read before'; 0 by the template 'total and deterministic' (their statements: Qxb6602912aTotals.lean).
  GIVEN WITH THE SEED: the statements are not yours to turn. If you find one false, say at which input.
  Laid BY PROGRAM, IN A SANDBOX (cutbox-rows.mjs): the forced cells as the released guide's own fill.sh prints them over the translation 0475e8133ce93ddf… (all of the seat's roots in one cut). By AI agents, Wed Nov 11 2026. No macro, syntax, notation, axiom, sorry.
-/
import Derived.Test.Qxb6602912aChecked
import GoSem.Claim
import GoSem.ClaimJoined
import GoSem.ClaimMapViews
import Derived.JoinedTies
import Derived.KernelRfl
namespace Go.Proofs.Qxb6602912a
/- THE CELL 'sum', in the pinned program and in every row, IS THE sha256 OF THE DUMP (.gsa) THAT Qxb6602912aProg.lean LOADS. Nothing in Lean hashes anything: it is a label: what it is worth is what the hold of that sum in a sandbox is worth. -/
noncomputable def Try.pinned : Pinned := { name := "qxb6602912a", sum := "0475e8133ce93ddf3748f1703022919658851b1f3ab3f46b854898af72cc9513", checked := Try.checked }
namespace Rows
def none {H : Type} : Left H := { results := [], args := [] }

/-- 'zzlaws_include_b1.FnPatternElementsSplitsAtEverySlash': WHATEVER THE INPUT: true; the input reads as it did. -/
def fnPatternElementsSplitsAtEverySlashSpec : ChangeSpec := { name := "fnPatternElementsSplitsAtEverySlash", fn := fun _ => fun
  | [d] => { results := [.lit (.bool true)], args := [d] }
  | _ => none }
def fnPatternElementsSplitsAtEverySlashRow : OpenClaim := { program := "qxb6602912a", sum := "0475e8133ce93ddf3748f1703022919658851b1f3ab3f46b854898af72cc9513", func := "example.com/aeolus/aeolus/zzlaws_include_b1.FnPatternElementsSplitsAtEverySlash", spec := "fnPatternElementsSplitsAtEverySlash", inPlace := ["internal/abi.NoEscape"], apart := false }
def FnPatternElementsSplitsAtEverySlashSaid : Prop := fnPatternElementsSplitsAtEverySlashRow.holds Try.pinned (OpenSpec.ofChange fnPatternElementsSplitsAtEverySlashSpec)

/-- ITS FALSE NEIGHBOUR: 'it returns false'. Refute it at one input. -/
def fnPatternElementsSplitsAtEverySlashWrong : ChangeSpec := { name := "fnPatternElementsSplitsAtEverySlash", fn := fun _ => fun
  | [d] => { results := [.lit (.bool false)], args := [d] }
  | _ => none }
def FnPatternElementsSplitsAtEverySlashWrongFalsely : Prop := fnPatternElementsSplitsAtEverySlashRow.holds Try.pinned (OpenSpec.ofChange fnPatternElementsSplitsAtEverySlashWrong)

/-- 'zzlaws_include_b1.FnPatternElementsUndoesJoin': WHATEVER THE INPUT: true; the input reads as it did. -/
def fnPatternElementsUndoesJoinSpec : ChangeSpec := { name := "fnPatternElementsUndoesJoin", fn := fun _ => fun
  | [d] => { results := [.lit (.bool true)], args := [d] }
  | _ => none }
def fnPatternElementsUndoesJoinRow : OpenClaim := { program := "qxb6602912a", sum := "0475e8133ce93ddf3748f1703022919658851b1f3ab3f46b854898af72cc9513", func := "example.com/aeolus/aeolus/zzlaws_include_b1.FnPatternElementsUndoesJoin", spec := "fnPatternElementsUndoesJoin", inPlace := ["internal/abi.NoEscape"], apart := false }
def FnPatternElementsUndoesJoinSaid : Prop := fnPatternElementsUndoesJoinRow.holds Try.pinned (OpenSpec.ofChange fnPatternElementsUndoesJoinSpec)

/-- ITS FALSE NEIGHBOUR: 'it returns false'. Refute it at one input. -/
def fnPatternElementsUndoesJoinWrong : ChangeSpec := { name := "fnPatternElementsUndoesJoin", fn := fun _ => fun
  | [d] => { results := [.lit (.bool false)], args := [d] }
  | _ => none }
def FnPatternElementsUndoesJoinWrongFalsely : Prop := fnPatternElementsUndoesJoinRow.holds Try.pinned (OpenSpec.ofChange fnPatternElementsUndoesJoinWrong)

/-- 'zzlaws_include_b1.FnPatternElementsShapeAndLeadingSlash': WHATEVER THE INPUT: true; the input reads as it did. -/
def fnPatternElementsShapeAndLeadingSlashSpec : ChangeSpec := { name := "fnPatternElementsShapeAndLeadingSlash", fn := fun _ => fun
  | [d] => { results := [.lit (.bool true)], args := [d] }
  | _ => none }
def fnPatternElementsShapeAndLeadingSlashRow : OpenClaim := { program := "qxb6602912a", sum := "0475e8133ce93ddf3748f1703022919658851b1f3ab3f46b854898af72cc9513", func := "example.com/aeolus/aeolus/zzlaws_include_b1.FnPatternElementsShapeAndLeadingSlash", spec := "fnPatternElementsShapeAndLeadingSlash", inPlace := ["internal/abi.NoEscape"], apart := false }
def FnPatternElementsShapeAndLeadingSlashSaid : Prop := fnPatternElementsShapeAndLeadingSlashRow.holds Try.pinned (OpenSpec.ofChange fnPatternElementsShapeAndLeadingSlashSpec)

/-- ITS FALSE NEIGHBOUR: 'it returns false'. Refute it at one input. -/
def fnPatternElementsShapeAndLeadingSlashWrong : ChangeSpec := { name := "fnPatternElementsShapeAndLeadingSlash", fn := fun _ => fun
  | [d] => { results := [.lit (.bool false)], args := [d] }
  | _ => none }
def FnPatternElementsShapeAndLeadingSlashWrongFalsely : Prop := fnPatternElementsShapeAndLeadingSlashRow.holds Try.pinned (OpenSpec.ofChange fnPatternElementsShapeAndLeadingSlashWrong)

/-- 'zzlaws_include_b1.FnFirstSetMatchesModel': WHATEVER THE INPUT: true; the input reads as it did. -/
def fnFirstSetMatchesModelSpec : ChangeSpec := { name := "fnFirstSetMatchesModel", fn := fun _ => fun
  | [d] => { results := [.lit (.bool true)], args := [d] }
  | _ => none }
def fnFirstSetMatchesModelRow : OpenClaim := { program := "qxb6602912a", sum := "0475e8133ce93ddf3748f1703022919658851b1f3ab3f46b854898af72cc9513", func := "example.com/aeolus/aeolus/zzlaws_include_b1.FnFirstSetMatchesModel", spec := "fnFirstSetMatchesModel", apart := false }
def FnFirstSetMatchesModelSaid : Prop := fnFirstSetMatchesModelRow.holds Try.pinned (OpenSpec.ofChange fnFirstSetMatchesModelSpec)

/-- ITS FALSE NEIGHBOUR: 'it returns false'. Refute it at one input. -/
def fnFirstSetMatchesModelWrong : ChangeSpec := { name := "fnFirstSetMatchesModel", fn := fun _ => fun
  | [d] => { results := [.lit (.bool false)], args := [d] }
  | _ => none }
def FnFirstSetMatchesModelWrongFalsely : Prop := fnFirstSetMatchesModelRow.holds Try.pinned (OpenSpec.ofChange fnFirstSetMatchesModelWrong)

/-- 'zzlaws_include_b1.FnFirstSetOneMoreLeadingStar': WHATEVER THE INPUT: true; the input reads as it did. -/
def fnFirstSetOneMoreLeadingStarSpec : ChangeSpec := { name := "fnFirstSetOneMoreLeadingStar", fn := fun _ => fun
  | [d] => { results := [.lit (.bool true)], args := [d] }
  | _ => none }
def fnFirstSetOneMoreLeadingStarRow : OpenClaim := { program := "qxb6602912a", sum := "0475e8133ce93ddf3748f1703022919658851b1f3ab3f46b854898af72cc9513", func := "example.com/aeolus/aeolus/zzlaws_include_b1.FnFirstSetOneMoreLeadingStar", spec := "fnFirstSetOneMoreLeadingStar", apart := false }
def FnFirstSetOneMoreLeadingStarSaid : Prop := fnFirstSetOneMoreLeadingStarRow.holds Try.pinned (OpenSpec.ofChange fnFirstSetOneMoreLeadingStarSpec)

/-- ITS FALSE NEIGHBOUR: 'it returns false'. Refute it at one input. -/
def fnFirstSetOneMoreLeadingStarWrong : ChangeSpec := { name := "fnFirstSetOneMoreLeadingStar", fn := fun _ => fun
  | [d] => { results := [.lit (.bool false)], args := [d] }
  | _ => none }
def FnFirstSetOneMoreLeadingStarWrongFalsely : Prop := fnFirstSetOneMoreLeadingStarRow.holds Try.pinned (OpenSpec.ofChange fnFirstSetOneMoreLeadingStarWrong)

/-- 'zzlaws_include_b1.FnSetEndPlainSetsCloseAtFirstUnescapedBracket': WHATEVER THE INPUT: true; the input reads as it did. -/
def fnSetEndPlainSetsCloseAtFirstUnescapedBracketSpec : ChangeSpec := { name := "fnSetEndPlainSetsCloseAtFirstUnescapedBracket", fn := fun _ => fun
  | [d1, d2] => { results := [.lit (.bool true)], args := [d1, d2] }
  | _ => none }
def fnSetEndPlainSetsCloseAtFirstUnescapedBracketRow : OpenClaim := { program := "qxb6602912a", sum := "0475e8133ce93ddf3748f1703022919658851b1f3ab3f46b854898af72cc9513", func := "example.com/aeolus/aeolus/zzlaws_include_b1.FnSetEndPlainSetsCloseAtFirstUnescapedBracket", spec := "fnSetEndPlainSetsCloseAtFirstUnescapedBracket", inPlace := ["internal/bytealg.IndexByteString", "internal/bytealg.IndexString"], named := ["internal/bytealg.MaxLen"], apart := false }
def FnSetEndPlainSetsCloseAtFirstUnescapedBracketSaid : Prop := fnSetEndPlainSetsCloseAtFirstUnescapedBracketRow.holds Try.pinned (OpenSpec.ofChange fnSetEndPlainSetsCloseAtFirstUnescapedBracketSpec)

/-- ITS FALSE NEIGHBOUR: 'it returns false'. Refute it at one input. -/
def fnSetEndPlainSetsCloseAtFirstUnescapedBracketWrong : ChangeSpec := { name := "fnSetEndPlainSetsCloseAtFirstUnescapedBracket", fn := fun _ => fun
  | [d1, d2] => { results := [.lit (.bool false)], args := [d1, d2] }
  | _ => none }
def FnSetEndPlainSetsCloseAtFirstUnescapedBracketWrongFalsely : Prop := fnSetEndPlainSetsCloseAtFirstUnescapedBracketRow.holds Try.pinned (OpenSpec.ofChange fnSetEndPlainSetsCloseAtFirstUnescapedBracketWrong)

/-- 'zzlaws_include_b1.FnSetEndReadsOnlyItsOwnSet': WHATEVER THE INPUT: true; the input reads as it did. -/
def fnSetEndReadsOnlyItsOwnSetSpec : ChangeSpec := { name := "fnSetEndReadsOnlyItsOwnSet", fn := fun _ => fun
  | [d1, d2, d3, d4] => { results := [.lit (.bool true)], args := [d1, d2, d3, d4] }
  | _ => none }
def fnSetEndReadsOnlyItsOwnSetRow : OpenClaim := { program := "qxb6602912a", sum := "0475e8133ce93ddf3748f1703022919658851b1f3ab3f46b854898af72cc9513", func := "example.com/aeolus/aeolus/zzlaws_include_b1.FnSetEndReadsOnlyItsOwnSet", spec := "fnSetEndReadsOnlyItsOwnSet", inPlace := ["internal/bytealg.IndexByteString", "internal/bytealg.IndexString"], named := ["internal/bytealg.MaxLen"], apart := false }
def FnSetEndReadsOnlyItsOwnSetSaid : Prop := fnSetEndReadsOnlyItsOwnSetRow.holds Try.pinned (OpenSpec.ofChange fnSetEndReadsOnlyItsOwnSetSpec)

/-- ITS FALSE NEIGHBOUR: 'it returns false'. Refute it at one input. -/
def fnSetEndReadsOnlyItsOwnSetWrong : ChangeSpec := { name := "fnSetEndReadsOnlyItsOwnSet", fn := fun _ => fun
  | [d1, d2, d3, d4] => { results := [.lit (.bool false)], args := [d1, d2, d3, d4] }
  | _ => none }
def FnSetEndReadsOnlyItsOwnSetWrongFalsely : Prop := fnSetEndReadsOnlyItsOwnSetRow.holds Try.pinned (OpenSpec.ofChange fnSetEndReadsOnlyItsOwnSetWrong)

/-- 'zzlaws_include_b1.FnSetEndStepsOverAWholeMember': WHATEVER THE INPUT: true; the input reads as it did. -/
def fnSetEndStepsOverAWholeMemberSpec : ChangeSpec := { name := "fnSetEndStepsOverAWholeMember", fn := fun _ => fun
  | [d1, d2, d3, d4, d5] => { results := [.lit (.bool true)], args := [d1, d2, d3, d4, d5] }
  | _ => none }
def fnSetEndStepsOverAWholeMemberRow : OpenClaim := { program := "qxb6602912a", sum := "0475e8133ce93ddf3748f1703022919658851b1f3ab3f46b854898af72cc9513", func := "example.com/aeolus/aeolus/zzlaws_include_b1.FnSetEndStepsOverAWholeMember", spec := "fnSetEndStepsOverAWholeMember", inPlace := ["internal/bytealg.IndexByteString", "internal/bytealg.IndexString"], named := ["internal/bytealg.MaxLen"], apart := false }
def FnSetEndStepsOverAWholeMemberSaid : Prop := fnSetEndStepsOverAWholeMemberRow.holds Try.pinned (OpenSpec.ofChange fnSetEndStepsOverAWholeMemberSpec)

/-- ITS FALSE NEIGHBOUR: 'it returns false'. Refute it at one input. -/
def fnSetEndStepsOverAWholeMemberWrong : ChangeSpec := { name := "fnSetEndStepsOverAWholeMember", fn := fun _ => fun
  | [d1, d2, d3, d4, d5] => { results := [.lit (.bool false)], args := [d1, d2, d3, d4, d5] }
  | _ => none }
def FnSetEndStepsOverAWholeMemberWrongFalsely : Prop := fnSetEndStepsOverAWholeMemberRow.holds Try.pinned (OpenSpec.ofChange fnSetEndStepsOverAWholeMemberWrong)

/-- 'zzlaws_include_b1.FnFirstSetIgnoresWhatFollows': WHATEVER THE INPUT: true; the input reads as it did. -/
def fnFirstSetIgnoresWhatFollowsSpec : ChangeSpec := { name := "fnFirstSetIgnoresWhatFollows", fn := fun _ => fun
  | [d1, d2] => { results := [.lit (.bool true)], args := [d1, d2] }
  | _ => none }
def fnFirstSetIgnoresWhatFollowsRow : OpenClaim := { program := "qxb6602912a", sum := "0475e8133ce93ddf3748f1703022919658851b1f3ab3f46b854898af72cc9513", func := "example.com/aeolus/aeolus/zzlaws_include_b1.FnFirstSetIgnoresWhatFollows", spec := "fnFirstSetIgnoresWhatFollows", apart := false }
def FnFirstSetIgnoresWhatFollowsSaid : Prop := fnFirstSetIgnoresWhatFollowsRow.holds Try.pinned (OpenSpec.ofChange fnFirstSetIgnoresWhatFollowsSpec)

/-- ITS FALSE NEIGHBOUR: 'it returns false'. Refute it at one input. -/
def fnFirstSetIgnoresWhatFollowsWrong : ChangeSpec := { name := "fnFirstSetIgnoresWhatFollows", fn := fun _ => fun
  | [d1, d2] => { results := [.lit (.bool false)], args := [d1, d2] }
  | _ => none }
def FnFirstSetIgnoresWhatFollowsWrongFalsely : Prop := fnFirstSetIgnoresWhatFollowsRow.holds Try.pinned (OpenSpec.ofChange fnFirstSetIgnoresWhatFollowsWrong)

end Rows
end Go.Proofs.Qxb6602912a
