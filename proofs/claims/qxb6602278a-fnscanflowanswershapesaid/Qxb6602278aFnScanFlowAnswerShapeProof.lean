import Derived.Test.Qxb6602278aRows
import Derived.WalkKit
import Derived.ProofKit
import Derived.OpenShut
import Derived.ShutString
import Derived.ChangeOld
import Derived.Below
import Derived.Test.Qxb6602278aWalkH
namespace Go.Proofs.Qxb6602278a.fnScanFlowAnswerShape
open Go.ChangeShapes Go.WideShapes Go.ChangeAt Go.RowKit
open Go.ChangeMaps (open_string shut_string)
set_option linter.unusedVariables false

theorem own : ownKnob Try.prog.godebug = none := by kernel_rfl
theorem laidOut : laidOutB Try.prog = true := by kernel_rfl

/-- WHAT THE WALK IS TOLD OF A SLICE OF INTEGERS THAT CAME IN: it is nil; or it leads to a row of 'cap' cells, the numbers 'zs' (the first 'len' are its elements, the rest its spare room), each fitting its kind. -/
def IsRow (k : IntKind) (w : World) (a : Option Addr) (len cap : Nat) (zs : List Int) : Prop :=
  (a = none ∧ len = 0 ∧ cap = 0 ∧ zs = []) ∨
  ∃ x, a = some x ∧ len ≤ cap ∧ cap ≤ maxLen ∧ zs.length = cap ∧ (∀ i, i < zs.length → w.cell? (x.add i) = some (.int k (zs.getD i 0))) ∧ ∀ n ∈ zs, (Lit.int k n).wf = true

/-! ### STEP 1: THE WALK: the Go text returns true, AND WRITES NOTHING THAT WAS THERE: 'Below w.heap.size w w'' (Derived/Below.lean: '.refl', '.alloc', '.drew', '.setCell' at a new block, '.trans'). Open each 'IsRow' by 'rcases' AHEAD of 'go_enter'; part every test ahead of the walk. -/
set_option maxHeartbeats 1000000 in
set_option maxRecDepth 100000 in
/-- The guard that answers at once: a text too long. -/
theorem big (a1 : Option Addr) (n1 c1 : Nat) (o : Int) (w : World) (h : ¬ n1 ≤ 1048576) :
    Calls Try.prog 5 #[.slice a1 n1 c1, .int .i64 o] w fun e w' => e = .returned (.bool true) ∧ Below w.heap.size w w' := by
  go_enter Try.func5, Try.ntmps5
  go_wp2_with (go_at_call 13; refine (bytes13n _ _ _ _ _ h).mono ?_; rintro e w1 ⟨rfl, hw1⟩; subst w1)
  go_ret
  exact ⟨rfl, Below.refl _ _⟩

set_option maxHeartbeats 1000000 in
set_option maxRecDepth 100000 in
/-- An offset outside the text. -/
theorem outside (a1 : Option Addr) (n1 c1 : Nat) (o : Int) (w : World) (h1 : n1 ≤ 1048576) (h : o < 0 ∨ (n1 : Int) ≤ o) :
    Calls Try.prog 5 #[.slice a1 n1 c1, .int .i64 o] w fun e w' => e = .returned (.bool true) ∧ Below w.heap.size w w' := by
  by_cases g : o < 0
  · clear h
    go_enter Try.func5, Try.ntmps5
    go_wp2_with (go_at_call 13; refine (bytes13 _ _ _ _ _ h1).mono ?_; rintro e w1 ⟨rfl, hw1⟩; subst w1)
    go_ret
    exact ⟨rfl, Below.refl _ _⟩
  · have g1 : (n1 : Int) ≤ o := by omega
    clear h
    go_enter Try.func5, Try.ntmps5
    go_wp2_with (go_at_call 13; refine (bytes13 _ _ _ _ _ h1).mono ?_; rintro e w1 ⟨rfl, hw1⟩; subst w1)
    go_ret
    exact ⟨rfl, Below.refl _ _⟩

set_option maxHeartbeats 1000000 in
set_option maxRecDepth 100000 in
/-- No opening bracket there. -/
theorem plain (b off : Nat) (n1 c1 : Nat) (o : Nat) (x : Int) (w : World) (h1 : n1 ≤ 1048576) (h : o < n1)
    (hc : w.cell? ⟨b, off + o, none⟩ = some (.int .u8 x)) (e1 : (x != 91) = true) (e2 : (x != 123) = true) :
    Calls Try.prog 5 #[.slice (some ⟨b, off, none⟩) n1 c1, .int .i64 (o : Int)] w fun e w' => e = .returned (.bool true) ∧ Below w.heap.size w w' := by
  go_enter Try.func5, Try.ntmps5
  go_wp2_with (go_at_call 13; refine (bytes13 _ _ _ _ _ h1).mono ?_; rintro e w1 ⟨rfl, hw1⟩; subst w1)
  go_ret
  exact ⟨rfl, Below.refl _ _⟩

theorem walk (a0 : Option Addr) (len0 cap0 : Nat) (z0 : List Int) (a1 : Int) (w : World) (w0 : IsRow .u8 w a0 len0 cap0 z0) (w1 : (Lit.int .i64 a1).wf = true) :
    Calls Try.prog 5 #[.slice a0 len0 cap0, .int .i64 a1] w fun e w' => e = .returned (.bool true) ∧ Below w.heap.size w w' := by
  obtain ⟨i0, hl0⟩ := In.of_row (show Row w a0 len0 cap0 z0 from w0)
  generalize z0.take len0 = L0 at *
  subst hl0
  by_cases h1 : L0.length ≤ 1048576
  · by_cases ho : a1 < 0 ∨ (L0.length : Int) ≤ a1
    · exact outside a0 _ _ a1 w h1 ho
    · obtain ⟨o, rfl⟩ := Int.eq_ofNat_of_zero_le (show 0 ≤ a1 by omega)
      have hol : o < L0.length := by omega
      by_cases hb : Sf.B L0 o = 91 ∨ Sf.B L0 o = 123
      · exact shape_all a0 cap0 L0 o w i0 h1 hol hb
      · obtain ⟨b, off, rfl, hbw, hcs⟩ : ∃ b off, a0 = some ⟨b, off, none⟩ ∧ b < w.heap.size ∧ ∀ i, i < L0.length → w.cell? ⟨b, off + i, none⟩ = some (.int .u8 (Sf.B L0 i)) := by
          rcases i0.src with ⟨h, _⟩ | h
          · rw [h] at hol; simp at hol
          · exact h
        exact plain b off _ _ o (Sf.B L0 o) w h1 hol (hcs o hol) (by rw [bne_iff_ne]; exact fun h => hb (.inl h)) (by rw [bne_iff_ne]; exact fun h => hb (.inr h))
  · exact big a0 _ _ a1 w h1

/-! ### THE ROW's STEP: WRITTEN OUT: LEAVE IT -/
set_option maxRecDepth 100000 in
theorem lifted (os : Os) (started : os.Started) (H : Type) (enc : TypeId × Value → H) :
    ReturnsInHanded {} Try.checked os 5 .any (Rows.fnScanFlowAnswerShapeSpec.pre6 enc Try.prog Try.f5 Rows.fnScanFlowAnswerShapeRow.domain false) (Rows.fnScanFlowAnswerShapeSpec.post enc Try.prog Try.f5 false true false false) := by
  refine returnsInHanded_of_change (C := Try.checked) own started (by kernel_rfl) Try.func5
    (ChangeSpec.witness6 (enc := enc) (C := Try.checked) false ⟨#[], #[.slice none 0 0, .int .i64 0], []⟩ 8 (by kernel_rfl) (by kernel_rfl) (by kernel_rfl) (by kernel_rfl)) ?_
  intro W base args ds gs before hval0 hW hcnd _
  have hval : ∀ (j : Nat) t v, Try.f5.params[j]? = some t → args[j]? = some v → Value.okWide Try.prog W .any base t v := hval0
  have hW' := hW
  obtain ⟨p, q, hA0, hV, rfl, hfz, hnd⟩ := hW
  have hA : DataW.TrodAll enc Try.prog W 0 (fun _ => true) true Try.f5.params.toList args.toList ds p := hA0
  rw [Try.params5] at hA hval
  obtain ⟨v0, vs0, d0, ds0, p0, q0, hargs, rfl, rfl, h0, r0⟩ := trodAll_cons hA
  obtain ⟨v1, vs1, d1, ds1, p1, q1, rfl, rfl, rfl, h1, r1⟩ := trodAll_cons r0
  obtain ⟨rfl, rfl, rfl⟩ := trodAll_nil r1
  obtain rfl : args = #[v0, v1] := by cases args; simp_all
  obtain ⟨rfl, rfl⟩ := trodVars_none hV
  obtain ⟨a0, len0, cap0, rfl⟩ := okWide_slice Try.underlying25 (hval 0 25 v0 rfl rfl)
  have k0 := h0
  have lt0 : ∀ x ∈ p0, x.block < W.heap.size := by obtain ⟨m, hm⟩ := k0; exact DataW.trod_lt m _ _ _ hm
  obtain ⟨z0, w0⟩ : ∃ zs, IsRow .u8 W a0 len0 cap0 zs := by
    obtain ⟨fuel, hf⟩ := h0
    rcases open_ints Try.underlying25 Try.underlying5 (by kernel_rfl) hf with ⟨hcs, _⟩ | ⟨x, l, c, zs, hcs, _, hl, hm, hz, _, hcell, hwz⟩
    · simp [Value.cells] at hcs
      obtain ⟨rfl, rfl, rfl⟩ := hcs
      exact ⟨[], .inl ⟨rfl, rfl, rfl, rfl⟩⟩
    · simp [Value.cells] at hcs
      obtain ⟨rfl, rfl, rfl⟩ := hcs
      exact ⟨zs, .inr ⟨_, rfl, hl, hm, by simpa using hz, hcell, hwz⟩⟩
  obtain ⟨a1, rfl, rfl, rfl, w1⟩ := open_int Try.underlying3 (hval 1 3 v1 rfl rfl) h1
  clear hA0 hval0
  refine (walk a0 len0 cap0 z0 a1 W w0 w1).mono fun e W' ⟨he, bel⟩ => ?_
  subst he
  exact ⟨_, rfl, _, _, _, [], _, [], hW', trodAll_mk1 (shut_bool Try.underlying4 _), (trodAll_cons_mk (Below.trod laidOut (by kernel_rfl) (of_decide_eq_true (by kernel_rfl)) k0 bel lt0) (trodAll_cons_mk (shut_int Try.underlying3 w1) trodAll_mk0)), rfl, bel.frame _, fun h => by cases h⟩

theorem over : Rows.fnScanFlowAnswerShapeRow.holds Try.pinned (OpenSpec.ofChange Rows.fnScanFlowAnswerShapeSpec) :=
  OpenClaim.holds_of_wide 5 Try.f5 rfl rfl rfl rfl rfl rfl rfl ⟨rfl, rfl, rfl, rfl, rfl⟩ rfl rfl rfl rfl rfl (by kernel_rfl) Try.func5 (by kernel_rfl)
    (of_decide_eq_true (by kernel_rfl)) (by unfold Func.isWrapper; first | (rw [if_pos (by decide +kernel)]; kernel_rfl) | (rw [if_neg (by decide +kernel)]; exact ⟨rfl, rfl⟩))
    (fun os started H enc _ => lifted os started H enc)

/-- ████ THE STATEMENT ████ -/
theorem proved : Rows.FnScanFlowAnswerShapeSaid := over
end Go.Proofs.Qxb6602278a.fnScanFlowAnswerShape
