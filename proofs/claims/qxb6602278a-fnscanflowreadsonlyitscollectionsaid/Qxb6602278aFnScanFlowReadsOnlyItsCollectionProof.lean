import Derived.Test.Qxb6602278aRows
import Derived.WalkKit
import Derived.ProofKit
import Derived.OpenShut
import Derived.ShutString
import Derived.ChangeOld
import Derived.Below
import Derived.Test.Qxb6602278aWalkG
namespace Go.Proofs.Qxb6602278a.fnScanFlowReadsOnlyItsCollection
open Go.ChangeShapes Go.WideShapes Go.ChangeAt Go.RowKit
open Go.ChangeMaps (open_string shut_string)
set_option linter.unusedVariables false

theorem own : ownKnob Try.prog.godebug = none := by kernel_rfl
theorem laidOut : laidOutB Try.prog = true := by kernel_rfl

/-- WHAT THE WALK IS TOLD OF A SLICE OF INTEGERS THAT CAME IN: it is nil; or it leads to a row of 'cap' cells, the numbers 'zs' (the first 'len' are its elements, the rest its spare room), each fitting its kind. -/
def IsRow (k : IntKind) (w : World) (a : Option Addr) (len cap : Nat) (zs : List Int) : Prop :=
  (a = none ∧ len = 0 ∧ cap = 0 ∧ zs = []) ∨
  ∃ x, a = some x ∧ len ≤ cap ∧ cap ≤ maxLen ∧ zs.length = cap ∧ (∀ i, i < zs.length → w.cell? (x.add i) = some (.int k (zs.getD i 0))) ∧ ∀ n ∈ zs, (Lit.int k n).wf = true

/-! ### STEP 1: THE WALK: the Go text returns true, AND WRITES NOTHING THAT WAS THERE: 'Below w.heap.size w w'' (Derived/Below.lean: '.refl', '.alloc', '.drew', '.setCell' at a new block, '.trans'). Open each 'IsRow' by 'rcases' AHEAD of 'go_enter'; part every test ahead of the walk. -/
set_option maxHeartbeats 1000000 in
set_option maxRecDepth 100000 in
/-- The guards that answer at once: a text too long. -/
theorem big (a0 a1 a3 : Option Addr) (n0 n1 n3 c0 c1 c3 : Nat) (o : Int) (w : World) (h : ¬ (n0 ≤ 262144 ∧ n1 ≤ 262144 ∧ n3 ≤ 262144)) :
    Calls Try.prog 6 #[.slice a0 n0 c0, .slice a1 n1 c1, .int .i64 o, .slice a3 n3 c3] w fun e w' => e = .returned (.bool true) ∧ Below w.heap.size w w' := by
  by_cases g0 : n0 ≤ 262144
  · by_cases g1 : n1 ≤ 262144
    · have g3 : ¬ n3 ≤ 262144 := fun h3 => h ⟨g0, g1, h3⟩
      clear h
      go_enter Try.func6, Try.ntmps6
      go_wp2_with (go_at_call 17; refine (bytes17n _ _ _ _ _ _ _ _ _ _ _).mono ?_; rintro e w1 ⟨t, rfl, hw1⟩; subst w1)
      all_goals
        go_ret
        exact ⟨rfl, Below.refl _ _⟩
    · clear h
      go_enter Try.func6, Try.ntmps6
      go_wp2_with (go_at_call 17; refine (bytes17n _ _ _ _ _ _ _ _ _ _ _).mono ?_; rintro e w1 ⟨t, rfl, hw1⟩; subst w1)
      all_goals
        go_ret
        exact ⟨rfl, Below.refl _ _⟩
  · clear h
    go_enter Try.func6, Try.ntmps6
    go_wp2_with (go_at_call 17; refine (bytes17n _ _ _ _ _ _ _ _ _ _ _).mono ?_; rintro e w1 ⟨t, rfl, hw1⟩; subst w1)
    all_goals
      go_ret
      exact ⟨rfl, Below.refl _ _⟩

set_option maxHeartbeats 1000000 in
set_option maxRecDepth 100000 in
/-- An offset outside the text. -/
theorem outside (a0 a1 a3 : Option Addr) (n0 n1 n3 c0 c1 c3 : Nat) (o : Int) (w : World) (h0 : n0 ≤ 262144) (h1 : n1 ≤ 262144) (h3 : n3 ≤ 262144) (h : o < 0 ∨ (n1 : Int) ≤ o) :
    Calls Try.prog 6 #[.slice a0 n0 c0, .slice a1 n1 c1, .int .i64 o, .slice a3 n3 c3] w fun e w' => e = .returned (.bool true) ∧ Below w.heap.size w w' := by
  by_cases g : o < 0
  · clear h
    go_enter Try.func6, Try.ntmps6
    go_wp2_with (go_at_call 17; refine (bytes17 _ _ _ _ _ _ _ _ _ _ _ h0 h1 h3).mono ?_; rintro e w1 ⟨rfl, hw1⟩; subst w1)
    go_ret
    exact ⟨rfl, Below.refl _ _⟩
  · have g1 : (n1 : Int) ≤ o := by omega
    clear h
    go_enter Try.func6, Try.ntmps6
    go_wp2_with (go_at_call 17; refine (bytes17 _ _ _ _ _ _ _ _ _ _ _ h0 h1 h3).mono ?_; rintro e w1 ⟨rfl, hw1⟩; subst w1)
    go_ret
    exact ⟨rfl, Below.refl _ _⟩

set_option maxHeartbeats 1000000 in
set_option maxRecDepth 100000 in
/-- No opening bracket there. -/
theorem plain (a0 a3 : Option Addr) (b off : Nat) (n0 n1 n3 c0 c1 c3 : Nat) (o : Nat) (x : Int) (w : World) (h0 : n0 ≤ 262144) (h1 : n1 ≤ 262144) (h3 : n3 ≤ 262144) (h : o < n1)
    (hc : w.cell? ⟨b, off + o, none⟩ = some (.int .u8 x)) (e1 : (x != 91) = true) (e2 : (x != 123) = true) :
    Calls Try.prog 6 #[.slice a0 n0 c0, .slice (some ⟨b, off, none⟩) n1 c1, .int .i64 (o : Int), .slice a3 n3 c3] w fun e w' => e = .returned (.bool true) ∧ Below w.heap.size w w' := by
  go_enter Try.func6, Try.ntmps6
  go_wp2_with (go_at_call 17; refine (bytes17 _ _ _ _ _ _ _ _ _ _ _ h0 h1 h3).mono ?_; rintro e w1 ⟨rfl, hw1⟩; subst w1)
  go_ret
  exact ⟨rfl, Below.refl _ _⟩

theorem walk (a0 : Option Addr) (len0 cap0 : Nat) (z0 : List Int) (a1 : Option Addr) (len1 cap1 : Nat) (z1 : List Int) (a2 : Int) (a3 : Option Addr) (len3 cap3 : Nat) (z3 : List Int) (w : World) (w0 : IsRow .u8 w a0 len0 cap0 z0) (w1 : IsRow .u8 w a1 len1 cap1 z1) (w2 : (Lit.int .i64 a2).wf = true) (w3 : IsRow .u8 w a3 len3 cap3 z3) :
    Calls Try.prog 6 #[.slice a0 len0 cap0, .slice a1 len1 cap1, .int .i64 a2, .slice a3 len3 cap3] w fun e w' => e = .returned (.bool true) ∧ Below w.heap.size w w' := by
  obtain ⟨i0, hl0⟩ := In.of_row (show Row w a0 len0 cap0 z0 from w0)
  obtain ⟨i1, hl1⟩ := In.of_row (show Row w a1 len1 cap1 z1 from w1)
  obtain ⟨i3, hl3⟩ := In.of_row (show Row w a3 len3 cap3 z3 from w3)
  generalize z0.take len0 = L0 at *
  generalize z1.take len1 = L1 at *
  generalize z3.take len3 = L3 at *
  subst hl0 hl1 hl3
  by_cases hs : L0.length ≤ 262144 ∧ L1.length ≤ 262144 ∧ L3.length ≤ 262144
  · obtain ⟨h0, h1, h3⟩ := hs
    by_cases ho : a2 < 0 ∨ (L1.length : Int) ≤ a2
    · exact outside a0 a1 a3 _ _ _ _ _ _ a2 w h0 h1 h3 ho
    · obtain ⟨o, rfl⟩ := Int.eq_ofNat_of_zero_le (show 0 ≤ a2 by omega)
      have hol : o < L1.length := by omega
      by_cases hb : Sf.B L1 o = 91 ∨ Sf.B L1 o = 123
      · cases hok : (Go.Proofs.Qxb6602278a.own L1 o).ok with
        | true => exact reads_ok a0 a1 a3 cap0 cap1 cap3 L0 L1 L3 o w i0 i1 i3 h0 h1 h3 hol hb hok
        | false => exact reads_no a0 a1 a3 cap0 cap1 cap3 L0 L1 L3 o w i0 i1 i3 h0 h1 h3 hol hb hok
      · obtain ⟨b, off, rfl, hbw, hcs⟩ : ∃ b off, a1 = some ⟨b, off, none⟩ ∧ b < w.heap.size ∧ ∀ i, i < L1.length → w.cell? ⟨b, off + i, none⟩ = some (.int .u8 (Sf.B L1 i)) := by
          rcases i1.src with ⟨h, _⟩ | h
          · rw [h] at hol; simp at hol
          · exact h
        exact plain a0 a3 b off _ _ _ _ _ _ o (Sf.B L1 o) w h0 h1 h3 hol (hcs o hol) (by rw [bne_iff_ne]; exact fun h => hb (.inl h)) (by rw [bne_iff_ne]; exact fun h => hb (.inr h))
  · exact big a0 a1 a3 _ _ _ _ _ _ a2 w hs

/-! ### THE ROW's STEP: WRITTEN OUT: LEAVE IT -/
set_option maxRecDepth 100000 in
theorem lifted (os : Os) (started : os.Started) (H : Type) (enc : TypeId × Value → H) :
    ReturnsInHanded {} Try.checked os 6 .any (Rows.fnScanFlowReadsOnlyItsCollectionSpec.pre6 enc Try.prog Try.f6 Rows.fnScanFlowReadsOnlyItsCollectionRow.domain false) (Rows.fnScanFlowReadsOnlyItsCollectionSpec.post enc Try.prog Try.f6 false true false false) := by
  refine returnsInHanded_of_change (C := Try.checked) own started (by kernel_rfl) Try.func6
    (ChangeSpec.witness6 (enc := enc) (C := Try.checked) false ⟨#[], #[.slice none 0 0, .slice none 0 0, .int .i64 0, .slice none 0 0], []⟩ 8 (by kernel_rfl) (by kernel_rfl) (by kernel_rfl) (by kernel_rfl)) ?_
  intro W base args ds gs before hval0 hW hcnd _
  have hval : ∀ (j : Nat) t v, Try.f6.params[j]? = some t → args[j]? = some v → Value.okWide Try.prog W .any base t v := hval0
  have hW' := hW
  obtain ⟨p, q, hA0, hV, rfl, hfz, hnd⟩ := hW
  have hA : DataW.TrodAll enc Try.prog W 0 (fun _ => true) true Try.f6.params.toList args.toList ds p := hA0
  rw [Try.params6] at hA hval
  obtain ⟨v0, vs0, d0, ds0, p0, q0, hargs, rfl, rfl, h0, r0⟩ := trodAll_cons hA
  obtain ⟨v1, vs1, d1, ds1, p1, q1, rfl, rfl, rfl, h1, r1⟩ := trodAll_cons r0
  obtain ⟨v2, vs2, d2, ds2, p2, q2, rfl, rfl, rfl, h2, r2⟩ := trodAll_cons r1
  obtain ⟨v3, vs3, d3, ds3, p3, q3, rfl, rfl, rfl, h3, r3⟩ := trodAll_cons r2
  obtain ⟨rfl, rfl, rfl⟩ := trodAll_nil r3
  obtain rfl : args = #[v0, v1, v2, v3] := by cases args; simp_all
  obtain ⟨rfl, rfl⟩ := trodVars_none hV
  obtain ⟨a0, len0, cap0, rfl⟩ := okWide_slice Try.underlying25 (hval 0 25 v0 rfl rfl)
  have k0 := h0
  have lt0 : ∀ x ∈ p0, x.block < W.heap.size := by obtain ⟨m, hm⟩ := k0; exact DataW.trod_lt m _ _ _ hm
  obtain ⟨z0, w0⟩ : ∃ zs, IsRow .u8 W a0 len0 cap0 zs := by
    obtain ⟨fuel, hf⟩ := h0
    rcases open_ints Try.underlying25 Try.underlying5 (by kernel_rfl) hf with ⟨hcs, _⟩ | ⟨x, l, c, zs, hcs, _, hl, hm, hz, _, hcell, hwz⟩
    · simp [Value.cells] at hcs
      obtain ⟨rfl, rfl, rfl⟩ := hcs
      exact ⟨[], .inl ⟨rfl, rfl, rfl, rfl⟩⟩
    · simp [Value.cells] at hcs
      obtain ⟨rfl, rfl, rfl⟩ := hcs
      exact ⟨zs, .inr ⟨_, rfl, hl, hm, by simpa using hz, hcell, hwz⟩⟩
  obtain ⟨a1, len1, cap1, rfl⟩ := okWide_slice Try.underlying25 (hval 1 25 v1 rfl rfl)
  have k1 := h1
  have lt1 : ∀ x ∈ p1, x.block < W.heap.size := by obtain ⟨m, hm⟩ := k1; exact DataW.trod_lt m _ _ _ hm
  obtain ⟨z1, w1⟩ : ∃ zs, IsRow .u8 W a1 len1 cap1 zs := by
    obtain ⟨fuel, hf⟩ := h1
    rcases open_ints Try.underlying25 Try.underlying5 (by kernel_rfl) hf with ⟨hcs, _⟩ | ⟨x, l, c, zs, hcs, _, hl, hm, hz, _, hcell, hwz⟩
    · simp [Value.cells] at hcs
      obtain ⟨rfl, rfl, rfl⟩ := hcs
      exact ⟨[], .inl ⟨rfl, rfl, rfl, rfl⟩⟩
    · simp [Value.cells] at hcs
      obtain ⟨rfl, rfl, rfl⟩ := hcs
      exact ⟨zs, .inr ⟨_, rfl, hl, hm, by simpa using hz, hcell, hwz⟩⟩
  obtain ⟨a2, rfl, rfl, rfl, w2⟩ := open_int Try.underlying3 (hval 2 3 v2 rfl rfl) h2
  obtain ⟨a3, len3, cap3, rfl⟩ := okWide_slice Try.underlying25 (hval 3 25 v3 rfl rfl)
  have k3 := h3
  have lt3 : ∀ x ∈ p3, x.block < W.heap.size := by obtain ⟨m, hm⟩ := k3; exact DataW.trod_lt m _ _ _ hm
  obtain ⟨z3, w3⟩ : ∃ zs, IsRow .u8 W a3 len3 cap3 zs := by
    obtain ⟨fuel, hf⟩ := h3
    rcases open_ints Try.underlying25 Try.underlying5 (by kernel_rfl) hf with ⟨hcs, _⟩ | ⟨x, l, c, zs, hcs, _, hl, hm, hz, _, hcell, hwz⟩
    · simp [Value.cells] at hcs
      obtain ⟨rfl, rfl, rfl⟩ := hcs
      exact ⟨[], .inl ⟨rfl, rfl, rfl, rfl⟩⟩
    · simp [Value.cells] at hcs
      obtain ⟨rfl, rfl, rfl⟩ := hcs
      exact ⟨zs, .inr ⟨_, rfl, hl, hm, by simpa using hz, hcell, hwz⟩⟩
  clear hA0 hval0
  refine (walk a0 len0 cap0 z0 a1 len1 cap1 z1 a2 a3 len3 cap3 z3 W w0 w1 w2 w3).mono fun e W' ⟨he, bel⟩ => ?_
  subst he
  exact ⟨_, rfl, _, _, _, [], _, [], hW', trodAll_mk1 (shut_bool Try.underlying4 _), (trodAll_cons_mk (Below.trod laidOut (by kernel_rfl) (of_decide_eq_true (by kernel_rfl)) k0 bel lt0) (trodAll_cons_mk (Below.trod laidOut (by kernel_rfl) (of_decide_eq_true (by kernel_rfl)) k1 bel lt1) (trodAll_cons_mk (shut_int Try.underlying3 w2) (trodAll_cons_mk (Below.trod laidOut (by kernel_rfl) (of_decide_eq_true (by kernel_rfl)) k3 bel lt3) trodAll_mk0)))), rfl, bel.frame _, fun h => by cases h⟩

theorem over : Rows.fnScanFlowReadsOnlyItsCollectionRow.holds Try.pinned (OpenSpec.ofChange Rows.fnScanFlowReadsOnlyItsCollectionSpec) :=
  OpenClaim.holds_of_wide 6 Try.f6 rfl rfl rfl rfl rfl rfl rfl ⟨rfl, rfl, rfl, rfl, rfl⟩ rfl rfl rfl rfl rfl (by kernel_rfl) Try.func6 (by kernel_rfl)
    (of_decide_eq_true (by kernel_rfl)) (by unfold Func.isWrapper; first | (rw [if_pos (by decide +kernel)]; kernel_rfl) | (rw [if_neg (by decide +kernel)]; exact ⟨rfl, rfl⟩))
    (fun os started H enc _ => lifted os started H enc)

/-- ████ THE STATEMENT ████ -/
theorem proved : Rows.FnScanFlowReadsOnlyItsCollectionSaid := over
end Go.Proofs.Qxb6602278a.fnScanFlowReadsOnlyItsCollection
