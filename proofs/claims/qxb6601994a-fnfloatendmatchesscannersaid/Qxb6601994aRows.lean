/-
  No cell of these rows narrows 'for every input' (looked for: loops, veiled, ifaces, maps, wideKeys, modest, calm, conditions, laid).
  DERIVED. THE GIVEN ROWS OF THIS SEAT. 3 by the template 'for every input the law returns true; each argument reads behind the call as it read before'; 0 by the template 'total and deterministic' (their statements: Qxb6601994aTotals.lean).
  GIVEN WITH THE SEED: the statements are not yours to turn. If you find one false, say at which input.
  Laid BY PROGRAM, IN A SANDBOX (cutbox-rows.mjs): the forced cells as the released guide's own fill.sh prints them over the translation 7c1b4b6e9a828c33… (all of the seat's roots in one cut). By AI agents, Wed Nov 11 2026. No macro, syntax, notation, axiom, sorry.
-/
import Derived.Test.Qxb6601994aChecked
import GoSem.Claim
import GoSem.ClaimJoined
import GoSem.ClaimMapViews
import Derived.JoinedTies
import Derived.KernelRfl
namespace Go.Proofs.Qxb6601994a
/- THE CELL 'sum', in the pinned program and in every row, IS THE sha256 OF THE DUMP (.gsa) THAT Qxb6601994aProg.lean LOADS. Nothing in Lean hashes anything: it is a label: what it is worth is what the hold of that sum in a sandbox is worth. -/
noncomputable def Try.pinned : Pinned := { name := "qxb6601994a", sum := "7c1b4b6e9a828c3375c13eab457b9adfce8219078b19f18ff19bbdf67b269c79", checked := Try.checked }
namespace Rows
def none {H : Type} : Left H := { results := [], args := [] }

/-- 'zzlaws_internal_jinja_b1.FnFloatEndMatchesScanner': WHATEVER THE INPUT: true; the input reads as it did. -/
def fnFloatEndMatchesScannerSpec : ChangeSpec := { name := "fnFloatEndMatchesScanner", fn := fun _ => fun
  | [d1, d2] => { results := [.lit (.bool true)], args := [d1, d2] }
  | _ => none }
def fnFloatEndMatchesScannerRow : OpenClaim := { program := "qxb6601994a", sum := "7c1b4b6e9a828c3375c13eab457b9adfce8219078b19f18ff19bbdf67b269c79", func := "example.com/metalwright/metalwright/zzlaws_internal_jinja_b1.FnFloatEndMatchesScanner", spec := "fnFloatEndMatchesScanner", inPlace := ["internal/bytealg.IndexByteString"], apart := false }
def FnFloatEndMatchesScannerSaid : Prop := fnFloatEndMatchesScannerRow.holds Try.pinned (OpenSpec.ofChange fnFloatEndMatchesScannerSpec)

/-- ITS FALSE NEIGHBOUR: 'it returns false'. Refute it at one input. -/
def fnFloatEndMatchesScannerWrong : ChangeSpec := { name := "fnFloatEndMatchesScanner", fn := fun _ => fun
  | [d1, d2] => { results := [.lit (.bool false)], args := [d1, d2] }
  | _ => none }
def FnFloatEndMatchesScannerWrongFalsely : Prop := fnFloatEndMatchesScannerRow.holds Try.pinned (OpenSpec.ofChange fnFloatEndMatchesScannerWrong)

/-- 'zzlaws_internal_jinja_b1.FnFloatEndCutLexesAlike': WHATEVER THE INPUT: true; the input reads as it did. -/
def fnFloatEndCutLexesAlikeSpec : ChangeSpec := { name := "fnFloatEndCutLexesAlike", fn := fun _ => fun
  | [d1, d2] => { results := [.lit (.bool true)], args := [d1, d2] }
  | _ => none }
def fnFloatEndCutLexesAlikeRow : OpenClaim := { program := "qxb6601994a", sum := "7c1b4b6e9a828c3375c13eab457b9adfce8219078b19f18ff19bbdf67b269c79", func := "example.com/metalwright/metalwright/zzlaws_internal_jinja_b1.FnFloatEndCutLexesAlike", spec := "fnFloatEndCutLexesAlike", inPlace := ["internal/bytealg.IndexByteString"], apart := false }
def FnFloatEndCutLexesAlikeSaid : Prop := fnFloatEndCutLexesAlikeRow.holds Try.pinned (OpenSpec.ofChange fnFloatEndCutLexesAlikeSpec)

/-- ITS FALSE NEIGHBOUR: 'it returns false'. Refute it at one input. -/
def fnFloatEndCutLexesAlikeWrong : ChangeSpec := { name := "fnFloatEndCutLexesAlike", fn := fun _ => fun
  | [d1, d2] => { results := [.lit (.bool false)], args := [d1, d2] }
  | _ => none }
def FnFloatEndCutLexesAlikeWrongFalsely : Prop := fnFloatEndCutLexesAlikeRow.holds Try.pinned (OpenSpec.ofChange fnFloatEndCutLexesAlikeWrong)

/-- 'zzlaws_internal_jinja_b1.FnFloatEndIgnoresWhatComesBefore': WHATEVER THE INPUT: true; the input reads as it did. -/
def fnFloatEndIgnoresWhatComesBeforeSpec : ChangeSpec := { name := "fnFloatEndIgnoresWhatComesBefore", fn := fun _ => fun
  | [d1, d2, d3] => { results := [.lit (.bool true)], args := [d1, d2, d3] }
  | _ => none }
def fnFloatEndIgnoresWhatComesBeforeRow : OpenClaim := { program := "qxb6601994a", sum := "7c1b4b6e9a828c3375c13eab457b9adfce8219078b19f18ff19bbdf67b269c79", func := "example.com/metalwright/metalwright/zzlaws_internal_jinja_b1.FnFloatEndIgnoresWhatComesBefore", spec := "fnFloatEndIgnoresWhatComesBefore", inPlace := ["internal/bytealg.IndexByteString"], apart := false }
def FnFloatEndIgnoresWhatComesBeforeSaid : Prop := fnFloatEndIgnoresWhatComesBeforeRow.holds Try.pinned (OpenSpec.ofChange fnFloatEndIgnoresWhatComesBeforeSpec)

/-- ITS FALSE NEIGHBOUR: 'it returns false'. Refute it at one input. -/
def fnFloatEndIgnoresWhatComesBeforeWrong : ChangeSpec := { name := "fnFloatEndIgnoresWhatComesBefore", fn := fun _ => fun
  | [d1, d2, d3] => { results := [.lit (.bool false)], args := [d1, d2, d3] }
  | _ => none }
def FnFloatEndIgnoresWhatComesBeforeWrongFalsely : Prop := fnFloatEndIgnoresWhatComesBeforeRow.holds Try.pinned (OpenSpec.ofChange fnFloatEndIgnoresWhatComesBeforeWrong)

end Rows
end Go.Proofs.Qxb6601994a
