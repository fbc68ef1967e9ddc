/- The row's closed facts, one by one; the head's words without the kernel's reading of a long string. -/
import Derived.Test.Qxb6602913aRows
import Derived.WalkKit
import Derived.ProofKit
namespace Go.Proofs.Qxb6602913a
open Go.RowKit

theorem and_mk {a b : Bool} (ha : a = true) (hb : b = true) : (a && b) = true := by rw [ha, hb]; rfl

set_option maxRecDepth 1000000 in
theorem signs : ∃ l, Try.prog.initOrder = String.ofList l ∧ behindMainWord (wordsSigns l) = ['c', 'u', 't'] :: (behindMainWord (wordsSigns l)).tail := ⟨_, rfl, by kernel_rfl⟩
theorem head : behindMainWord (wordsSigns Try.prog.initOrder.toList) = ['c', 'u', 't'] :: (behindMainWord (wordsSigns Try.prog.initOrder.toList)).tail := by
  obtain ⟨l, h1, h2⟩ := signs
  rw [h1, String.toList_ofList]
  exact h2

theorem strip_cut (rest : List (List Char)) : stripLifts liftWords (['c', 'u', 't'] :: rest) = ([], ['c', 'u', 't'] :: rest) := by kernel_rfl
theorem lays : Try.prog.laysLater = false := by kernel_rfl
theorem bears : Try.prog.bearsReflect = false := by kernel_rfl
theorem door : Try.prog.doorRows = [] := by kernel_rfl

theorem mayEnter_of {P : Program} {rest : List (List Char)} (h : behindMainWord (wordsSigns P.initOrder.toList) = ['c', 'u', 't'] :: rest) (h1 : P.laysLater = false) (h2 : P.bearsReflect = false) (h3 : P.doorRows = []) : P.mayEnter = true := by
  unfold Program.mayEnter
  rw [h]
  dsimp only
  rw [strip_cut, h1, h2]
  unfold Program.doorFits
  rw [h3]
  simp
theorem headLifts_of {P : Program} {rest : List (List Char)} (h : behindMainWord (wordsSigns P.initOrder.toList) = ['c', 'u', 't'] :: rest) : P.headLifts = [] := by
  unfold Program.headLifts
  rw [h, strip_cut]
  simp
theorem liftsFinal_of {P : Program} {rest : List (List Char)} (h : behindMainWord (wordsSigns P.initOrder.toList) = ['c', 'u', 't'] :: rest) : P.liftsFinal = false := by
  unfold Program.liftsFinal
  rw [headLifts_of h, h]
  simp
theorem make_of {P : Program} {rest : List (List Char)} (h : behindMainWord (wordsSigns P.initOrder.toList) = ['c', 'u', 't'] :: rest) : P.make = some .cut := by
  unfold Program.make
  rw [h]
  simp

theorem f1 : Try.prog.mayEnter = true := mayEnter_of head lays bears door
theorem f2 : (Rows.fnMatchNamesOneNameIsMatchNameRow.lifted == Try.prog.liftsFinal) = true := by rw [liftsFinal_of head]; rfl
theorem f3 : (Try.prog.make == some Rows.fnMatchNamesOneNameIsMatchNameRow.make) = true := by rw [make_of head]; rfl

set_option maxRecDepth 100000 in
theorem closed8 : joinedFacts Try.prog 8 Try.f8 Rows.fnMatchNamesOneNameIsMatchNameSpec Rows.fnMatchNamesOneNameIsMatchNameRow = true := by
  unfold joinedFacts
  repeat' (with_reducible refine and_mk ?_ ?_)
  all_goals first | (with_reducible exact f1) | (with_reducible exact f2) | (with_reducible exact f3) | (as_aux_lemma => kernel_rfl)
end Go.Proofs.Qxb6602913a
