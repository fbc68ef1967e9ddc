/-
  No cell of these rows narrows 'for every input' (looked for: loops, veiled, ifaces, maps, wideKeys, modest, calm, conditions, laid).
  DERIVED. THE GIVEN ROWS OF THIS SEAT. 6 by the template 'for every input the law returns true; each argument reads behind the call as it read before'; 0 by the template 'total and deterministic' (their statements: Qxb6602913aTotals.lean).
  GIVEN WITH THE SEED: the statements are not yours to turn. If you find one false, say at which input.
  Laid BY PROGRAM, IN A SANDBOX (cutbox-rows.mjs): the forced cells as the released guide's own fill.sh prints them over the translation 2b4d02d91e78b2f9… (all of the seat's roots in one cut). By AI agents, Wed Nov 11 2026. No macro, syntax, notation, axiom, sorry.
-/
import Derived.Test.Qxb6602913aChecked
import GoSem.Claim
import GoSem.ClaimJoined
import GoSem.ClaimMapViews
import Derived.JoinedTies
import Derived.KernelRfl
namespace Go.Proofs.Qxb6602913a
/- THE CELL 'sum', in the pinned program and in every row, IS THE sha256 OF THE DUMP (.gsa) THAT Qxb6602913aProg.lean LOADS. Nothing in Lean hashes anything: it is a label: what it is worth is what the hold of that sum in a sandbox is worth. -/
noncomputable def Try.pinned : Pinned := { name := "qxb6602913a", sum := "2b4d02d91e78b2f99238d808c1231a295fcb487d42ab390d63434b68be1c578d", checked := Try.checked }
namespace Rows
def none {H : Type} : Left H := { results := [], args := [] }

/-- 'zzlaws_internal_exclude_b1.FnClassByteDecodesEncoding': WHATEVER THE INPUT: true; the input reads as it did. -/
def fnClassByteDecodesEncodingSpec : ChangeSpec := { name := "fnClassByteDecodesEncoding", fn := fun _ => fun
  | [d1, d2, d3] => { results := [.lit (.bool true)], args := [d1, d2, d3] }
  | _ => none }
def fnClassByteDecodesEncodingRow : OpenClaim := { program := "qxb6602913a", sum := "2b4d02d91e78b2f99238d808c1231a295fcb487d42ab390d63434b68be1c578d", func := "example.com/vaultwire/vaultwire/zzlaws_internal_exclude_b1.FnClassByteDecodesEncoding", spec := "fnClassByteDecodesEncoding", apart := false }
def FnClassByteDecodesEncodingSaid : Prop := fnClassByteDecodesEncodingRow.holds Try.pinned (OpenSpec.ofChange fnClassByteDecodesEncodingSpec)

/-- ITS FALSE NEIGHBOUR: 'it returns false'. Refute it at one input. -/
def fnClassByteDecodesEncodingWrong : ChangeSpec := { name := "fnClassByteDecodesEncoding", fn := fun _ => fun
  | [d1, d2, d3] => { results := [.lit (.bool false)], args := [d1, d2, d3] }
  | _ => none }
def FnClassByteDecodesEncodingWrongFalsely : Prop := fnClassByteDecodesEncodingRow.holds Try.pinned (OpenSpec.ofChange fnClassByteDecodesEncodingWrong)

/-- 'zzlaws_internal_exclude_b1.FnMatchNameAgreesWithModel': WHATEVER THE INPUT: true; the input reads as it did. -/
def fnMatchNameAgreesWithModelSpec : ChangeSpec := { name := "fnMatchNameAgreesWithModel", fn := fun _ => fun
  | [d1, d2, d3] => { results := [.lit (.bool true)], args := [d1, d2, d3] }
  | _ => none }
def fnMatchNameAgreesWithModelRow : OpenClaim := { program := "qxb6602913a", sum := "2b4d02d91e78b2f99238d808c1231a295fcb487d42ab390d63434b68be1c578d", func := "example.com/vaultwire/vaultwire/zzlaws_internal_exclude_b1.FnMatchNameAgreesWithModel", spec := "fnMatchNameAgreesWithModel", apart := false }
def FnMatchNameAgreesWithModelSaid : Prop := fnMatchNameAgreesWithModelRow.holds Try.pinned (OpenSpec.ofChange fnMatchNameAgreesWithModelSpec)

/-- ITS FALSE NEIGHBOUR: 'it returns false'. Refute it at one input. -/
def fnMatchNameAgreesWithModelWrong : ChangeSpec := { name := "fnMatchNameAgreesWithModel", fn := fun _ => fun
  | [d1, d2, d3] => { results := [.lit (.bool false)], args := [d1, d2, d3] }
  | _ => none }
def FnMatchNameAgreesWithModelWrongFalsely : Prop := fnMatchNameAgreesWithModelRow.holds Try.pinned (OpenSpec.ofChange fnMatchNameAgreesWithModelWrong)

/-- 'zzlaws_internal_exclude_b1.FnMatchNameWidens': WHATEVER THE INPUT: true; the input reads as it did. -/
def fnMatchNameWidensSpec : ChangeSpec := { name := "fnMatchNameWidens", fn := fun _ => fun
  | [d1, d2, d3, d4, d5] => { results := [.lit (.bool true)], args := [d1, d2, d3, d4, d5] }
  | _ => none }
def fnMatchNameWidensRow : OpenClaim := { program := "qxb6602913a", sum := "2b4d02d91e78b2f99238d808c1231a295fcb487d42ab390d63434b68be1c578d", func := "example.com/vaultwire/vaultwire/zzlaws_internal_exclude_b1.FnMatchNameWidens", spec := "fnMatchNameWidens", apart := false }
def FnMatchNameWidensSaid : Prop := fnMatchNameWidensRow.holds Try.pinned (OpenSpec.ofChange fnMatchNameWidensSpec)

/-- ITS FALSE NEIGHBOUR: 'it returns false'. Refute it at one input. -/
def fnMatchNameWidensWrong : ChangeSpec := { name := "fnMatchNameWidens", fn := fun _ => fun
  | [d1, d2, d3, d4, d5] => { results := [.lit (.bool false)], args := [d1, d2, d3, d4, d5] }
  | _ => none }
def FnMatchNameWidensWrongFalsely : Prop := fnMatchNameWidensRow.holds Try.pinned (OpenSpec.ofChange fnMatchNameWidensWrong)

/-- 'zzlaws_internal_exclude_b1.FnMatchNamesAgreesWithModel': WHATEVER THE INPUT: true; the input reads as it did. -/
def fnMatchNamesAgreesWithModelSpec : ChangeSpec := { name := "fnMatchNamesAgreesWithModel", fn := fun _ => fun
  | [d1, d2, d3, d4] => { results := [.lit (.bool true)], args := [d1, d2, d3, d4] }
  | _ => none }
def fnMatchNamesAgreesWithModelRow : OpenClaim := { program := "qxb6602913a", sum := "2b4d02d91e78b2f99238d808c1231a295fcb487d42ab390d63434b68be1c578d", func := "example.com/vaultwire/vaultwire/zzlaws_internal_exclude_b1.FnMatchNamesAgreesWithModel", spec := "fnMatchNamesAgreesWithModel", inPlace := ["internal/bytealg.IndexByte"], apart := false }
def FnMatchNamesAgreesWithModelSaid : Prop := fnMatchNamesAgreesWithModelRow.holds Try.pinned (OpenSpec.ofChange fnMatchNamesAgreesWithModelSpec)

/-- ITS FALSE NEIGHBOUR: 'it returns false'. Refute it at one input. -/
def fnMatchNamesAgreesWithModelWrong : ChangeSpec := { name := "fnMatchNamesAgreesWithModel", fn := fun _ => fun
  | [d1, d2, d3, d4] => { results := [.lit (.bool false)], args := [d1, d2, d3, d4] }
  | _ => none }
def FnMatchNamesAgreesWithModelWrongFalsely : Prop := fnMatchNamesAgreesWithModelRow.holds Try.pinned (OpenSpec.ofChange fnMatchNamesAgreesWithModelWrong)

/-- 'zzlaws_internal_exclude_b1.FnMatchNamesWidens': WHATEVER THE INPUT: true; the input reads as it did. -/
def fnMatchNamesWidensSpec : ChangeSpec := { name := "fnMatchNamesWidens", fn := fun _ => fun
  | [d1, d2, d3, d4, d5] => { results := [.lit (.bool true)], args := [d1, d2, d3, d4, d5] }
  | _ => none }
def fnMatchNamesWidensRow : OpenClaim := { program := "qxb6602913a", sum := "2b4d02d91e78b2f99238d808c1231a295fcb487d42ab390d63434b68be1c578d", func := "example.com/vaultwire/vaultwire/zzlaws_internal_exclude_b1.FnMatchNamesWidens", spec := "fnMatchNamesWidens", inPlace := ["internal/bytealg.IndexByte"], apart := false }
def FnMatchNamesWidensSaid : Prop := fnMatchNamesWidensRow.holds Try.pinned (OpenSpec.ofChange fnMatchNamesWidensSpec)

/-- ITS FALSE NEIGHBOUR: 'it returns false'. Refute it at one input. -/
def fnMatchNamesWidensWrong : ChangeSpec := { name := "fnMatchNamesWidens", fn := fun _ => fun
  | [d1, d2, d3, d4, d5] => { results := [.lit (.bool false)], args := [d1, d2, d3, d4, d5] }
  | _ => none }
def FnMatchNamesWidensWrongFalsely : Prop := fnMatchNamesWidensRow.holds Try.pinned (OpenSpec.ofChange fnMatchNamesWidensWrong)

/-- 'zzlaws_internal_exclude_b1.FnMatchNamesOneNameIsMatchName': WHATEVER THE INPUT: true; the input reads as it did. -/
def fnMatchNamesOneNameIsMatchNameSpec : ChangeSpec := { name := "fnMatchNamesOneNameIsMatchName", fn := fun _ => fun
  | [d1, d2, d3] => { results := [.lit (.bool true)], args := [d1, d2, d3] }
  | _ => none }
def fnMatchNamesOneNameIsMatchNameRow : OpenClaim := { program := "qxb6602913a", sum := "2b4d02d91e78b2f99238d808c1231a295fcb487d42ab390d63434b68be1c578d", func := "example.com/vaultwire/vaultwire/zzlaws_internal_exclude_b1.FnMatchNamesOneNameIsMatchName", spec := "fnMatchNamesOneNameIsMatchName", inPlace := ["internal/bytealg.IndexByte"], apart := false }
def FnMatchNamesOneNameIsMatchNameSaid : Prop := fnMatchNamesOneNameIsMatchNameRow.holds Try.pinned (OpenSpec.ofChange fnMatchNamesOneNameIsMatchNameSpec)

/-- ITS FALSE NEIGHBOUR: 'it returns false'. Refute it at one input. -/
def fnMatchNamesOneNameIsMatchNameWrong : ChangeSpec := { name := "fnMatchNamesOneNameIsMatchName", fn := fun _ => fun
  | [d1, d2, d3] => { results := [.lit (.bool false)], args := [d1, d2, d3] }
  | _ => none }
def FnMatchNamesOneNameIsMatchNameWrongFalsely : Prop := fnMatchNamesOneNameIsMatchNameRow.holds Try.pinned (OpenSpec.ofChange fnMatchNamesOneNameIsMatchNameWrong)

end Rows
end Go.Proofs.Qxb6602913a
