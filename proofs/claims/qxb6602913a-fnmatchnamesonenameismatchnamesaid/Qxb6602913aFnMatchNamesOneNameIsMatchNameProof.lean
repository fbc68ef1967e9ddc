import Derived.Test.Qxb6602913aRows
import Derived.WalkKit
import Derived.ProofKit
import Derived.OpenShut
import Derived.ShutString
import Derived.ChangeOld
import Derived.Below
import Derived.Deep.Slices
import Derived.Deep.Grids
import Derived.Laws.IdiomArrays
import Derived.Test.Qxb6602913aWalkH
import Derived.Test.Qxb6602913aFacts
namespace Go.Proofs.Qxb6602913a.fnMatchNamesOneNameIsMatchName
open Go.ChangeShapes Go.WideShapes Go.ChangeAt Go.RowKit
set_option linter.unusedVariables false

theorem own : ownKnob Try.prog.godebug = none := by kernel_rfl
theorem laidOut : laidOutB Try.prog = true := by kernel_rfl
theorem cells4 : Try.prog.cellsOf 4 = 1 := by kernel_rfl
theorem cells33 : Try.prog.cellsOf 33 = 1 := by kernel_rfl
theorem cells34 : Try.prog.cellsOf 34 = 4 := by kernel_rfl
theorem cells5 : Try.prog.cellsOf 5 = 1 := by kernel_rfl

theorem byte_wf {n : Int} (h : (Lit.int .u8 n).wf = true) : 0 ≤ n ∧ n ≤ 255 := by
  have := bounds_u8 h
  omega

/-! ### the arguments opened -/
section
variable {H : Type} {enc : TypeId × Value → H} {w : World} {held : Bool} {fuel : Nat} {x : DataW H × List MemPlace} {a : Option Addr} {n cap : Nat}

theorem bools_in (h : DataW.trod enc Try.prog w 0 (fun _ => true) held fuel 23 (Value.cells (.slice a n cap)).toList = some x) : ∃ R, InB w a n cap R := by
  rcases Deep.open_bools Try.underlying23 Try.underlying4 cells4 h with ⟨hcs, _⟩ | ⟨b, l, c, B, hcs, _, hl, hm, _, hcell⟩
  · simp [Value.cells] at hcs
    obtain ⟨rfl, rfl, rfl⟩ := hcs
    exact ⟨fun _ => false, .inl ⟨rfl, rfl, rfl⟩⟩
  · simp [Value.cells] at hcs
    obtain ⟨rfl, rfl, rfl⟩ := hcs
    exact ⟨B, .inr ⟨_, rfl, fun i hi => hcell i (by omega)⟩⟩

theorem four {m : Nat} {cs : List Value} {y : DataW H × List MemPlace} {b : Addr} (hc : w.cells? 0 b 4 = some cs) (h : DataW.trod enc Try.prog w 0 (fun _ => true) held m 34 cs = some y) :
    ∃ S : Nat → Int, ∀ j, j < 4 → w.cell? (b.add j) = some (.int .u64 (S j)) := by
  obtain ⟨_, hl, hcell⟩ := World.cells?_some hc
  match cs, hl with
  | [c0, c1, c2, c3], _ =>
    obtain ⟨y0, y1, y2, y3, k, _, h0, h1, h2, h3⟩ := trod_array4 Try.underlying34 cells33 h
    obtain ⟨z0, e0, _⟩ := DataW.trod_int Try.underlying33 h0
    obtain ⟨z1, e1, _⟩ := DataW.trod_int Try.underlying33 h1
    obtain ⟨z2, e2, _⟩ := DataW.trod_int Try.underlying33 h2
    obtain ⟨z3, e3, _⟩ := DataW.trod_int Try.underlying33 h3
    simp at e0 e1 e2 e3
    subst e0 e1 e2 e3
    refine ⟨fun j => [z0, z1, z2, z3].getD j 0, fun j hj => ?_⟩
    rw [hcell j hj]
    match j, hj with
    | 0, _ => rfl
    | 1, _ => rfl
    | 2, _ => rfl
    | 3, _ => rfl

theorem sets_in (h : DataW.trod enc Try.prog w 0 (fun _ => true) held fuel 29 (Value.cells (.slice a n cap)).toList = some x) : ∃ S, InS w a n cap S := by
  rcases Deep.open_slice Try.underlying29 h with ⟨hcs, _⟩ | ⟨b, l, c, m, k, D, Pl, hcs, _, hl, hm, hmm, _, hcell⟩
  · simp [Value.cells] at hcs
    obtain ⟨rfl, rfl, rfl⟩ := hcs
    exact ⟨fun _ _ => 0, .inl ⟨rfl, rfl, rfl⟩⟩
  · simp [Value.cells] at hcs
    obtain ⟨rfl, rfl, rfl⟩ := hcs
    have hmn : n ≤ m := by rw [hmm]; simpa using hl
    obtain ⟨S, hS⟩ := Deep.choose_lt (n := n) (p := fun i (s : Nat → Int) => ∀ j, j < 4 → w.cell? ((b.add (i * 4)).add j) = some (.int .u64 (s j))) (fun i hi => by
      obtain ⟨cs', h1, h2⟩ := hcell i (by omega)
      rw [cells34] at h1
      exact four h1 h2)
    exact ⟨S, .inr ⟨_, rfl, fun i hi j hj => by rw [← Deep.add_add]; exact hS i hi j hj⟩⟩

theorem path_in (h : DataW.trod enc Try.prog w 0 (fun _ => true) held fuel 22 (Value.cells (.slice a n cap)).toList = some x) : ∃ xs : List Int, xs.length = n ∧ InP w a cap xs ∧ ∀ v ∈ xs, 0 ≤ v ∧ v ≤ 255 := by
  rcases open_ints Try.underlying22 Try.underlying5 cells5 h with ⟨hcs, _⟩ | ⟨b, l, c, zs, hcs, _, hl, hm, hz, _, hcell, hwz⟩
  · simp [Value.cells] at hcs
    obtain ⟨rfl, rfl, rfl⟩ := hcs
    exact ⟨[], rfl, .inl ⟨rfl, rfl, rfl⟩, by simp⟩
  · simp [Value.cells] at hcs
    obtain ⟨rfl, rfl, rfl⟩ := hcs
    have hzl : zs.length = cap := by simpa using hz
    refine ⟨zs.take n, by simp; omega, .inr ⟨_, rfl, fun i hi => ?_⟩, fun v hv => ?_⟩
    · have hi' : i < n := by simp at hi; omega
      rw [hcell i (by omega)]
      simp [List.getD_eq_getElem?_getD, hi']
    · have := hwz v (List.mem_of_mem_take hv)
      exact byte_wf this
end

theorem walk (a0 : Option Addr) (len0 cap0 : Nat) (R : Nat → Bool) (a1 : Option Addr) (len1 cap1 : Nat) (S : Nat → Nat → Int) (a2 : Option Addr) (cap2 : Nat) (xs : List Int) (w : World)
    (i0 : InB w a0 len0 cap0 R) (i1 : InS w a1 len1 cap1 S) (i2 : InP w a2 cap2 xs) (hx : ∀ v ∈ xs, 0 ≤ v ∧ v ≤ 255) :
    Calls Try.prog 8 #[.slice a0 len0 cap0, .slice a1 len1 cap1, .slice a2 xs.length cap2] w fun e w' => e = .returned (.bool true) ∧ Below w.heap.size w w' := by
  by_cases hs : len0 ≤ 4096 ∧ len1 ≤ 4096 ∧ xs.length ≤ 4096
  · obtain ⟨h0, h1, h2⟩ := hs
    by_cases he : len0 = len1
    · subst he
      exact law a0 a1 a2 len0 cap0 cap1 cap2 R S xs w h0 h2 i0 i1 i2 hx
    · exact uneven a0 a1 a2 _ _ _ _ _ _ w h0 h1 h2 he
  · exact big a0 a1 a2 _ _ _ _ _ _ w hs

/-! ### the row's step -/
set_option maxRecDepth 100000 in
theorem lifted (os : Os) (started : os.Started) (H : Type) (enc : TypeId × Value → H) :
    ReturnsInHanded {} Try.checked os 8 .any (Rows.fnMatchNamesOneNameIsMatchNameSpec.pre6 enc Try.prog Try.f8 Rows.fnMatchNamesOneNameIsMatchNameRow.domain false) (Rows.fnMatchNamesOneNameIsMatchNameSpec.post enc Try.prog Try.f8 false true false false) := by
  refine returnsInHanded_of_change (C := Try.checked) own started (by kernel_rfl) Try.func8
    (ChangeSpec.witness6 (enc := enc) (C := Try.checked) false ⟨#[], #[.slice none 0 0, .slice none 0 0, .slice none 0 0], []⟩ 8 (by kernel_rfl) (by kernel_rfl) (by kernel_rfl) (by kernel_rfl)) ?_
  intro W base args ds gs before hval0 hW hcnd _
  have hval : ∀ (j : Nat) t v, Try.f8.params[j]? = some t → args[j]? = some v → Value.okWide Try.prog W .any base t v := hval0
  have hW' := hW
  obtain ⟨p, q, hA0, hV, rfl, hfz, hnd⟩ := hW
  have hA : DataW.TrodAll enc Try.prog W 0 (fun _ => true) true Try.f8.params.toList args.toList ds p := hA0
  rw [Try.params8] at hA hval
  obtain ⟨v0, vs0, d0, ds0, p0, q0, hargs, rfl, rfl, h0, r0⟩ := trodAll_cons hA
  obtain ⟨v1, vs1, d1, ds1, p1, q1, rfl, rfl, rfl, h1, r1⟩ := trodAll_cons r0
  obtain ⟨v2, vs2, d2, ds2, p2, q2, rfl, rfl, rfl, h2, r2⟩ := trodAll_cons r1
  obtain ⟨rfl, rfl, rfl⟩ := trodAll_nil r2
  obtain rfl : args = #[v0, v1, v2] := by cases args; simp_all
  obtain ⟨rfl, rfl⟩ := trodVars_none hV
  obtain ⟨a0, len0, cap0, rfl⟩ := okWide_slice Try.underlying23 (hval 0 23 v0 rfl rfl)
  have k0 := h0
  have lt0 : ∀ x ∈ p0, x.block < W.heap.size := by obtain ⟨m, hm⟩ := k0; exact DataW.trod_lt m _ _ _ hm
  obtain ⟨R, i0⟩ : ∃ R, InB W a0 len0 cap0 R := by
    obtain ⟨fuel, hf⟩ := h0
    exact bools_in hf
  obtain ⟨a1, len1, cap1, rfl⟩ := okWide_slice Try.underlying29 (hval 1 29 v1 rfl rfl)
  have k1 := h1
  have lt1 : ∀ x ∈ p1, x.block < W.heap.size := by obtain ⟨m, hm⟩ := k1; exact DataW.trod_lt m _ _ _ hm
  obtain ⟨S, i1⟩ : ∃ S, InS W a1 len1 cap1 S := by
    obtain ⟨fuel, hf⟩ := h1
    exact sets_in hf
  obtain ⟨a2, len2, cap2, rfl⟩ := okWide_slice Try.underlying22 (hval 2 22 v2 rfl rfl)
  have k2 := h2
  have lt2 : ∀ x ∈ p2, x.block < W.heap.size := by obtain ⟨m, hm⟩ := k2; exact DataW.trod_lt m _ _ _ hm
  obtain ⟨xs, rfl, i2, hx⟩ : ∃ xs : List Int, xs.length = len2 ∧ InP W a2 cap2 xs ∧ ∀ v ∈ xs, 0 ≤ v ∧ v ≤ 255 := by
    obtain ⟨fuel, hf⟩ := h2
    exact path_in hf
  clear hA0 hval0
  refine (walk a0 len0 cap0 R a1 len1 cap1 S a2 cap2 xs W i0 i1 i2 hx).mono fun e W' ⟨he, bel⟩ => ?_
  subst he
  exact ⟨_, rfl, _, _, _, [], _, [], hW', trodAll_mk1 (shut_bool Try.underlying4 _), (trodAll_cons_mk (Below.trod laidOut (by kernel_rfl) (of_decide_eq_true (by kernel_rfl)) k0 bel lt0) (trodAll_cons_mk (Below.trod laidOut (by kernel_rfl) (of_decide_eq_true (by kernel_rfl)) k1 bel lt1) (trodAll_cons_mk (Below.trod laidOut (by kernel_rfl) (of_decide_eq_true (by kernel_rfl)) k2 bel lt2) trodAll_mk0))), rfl, bel.frame _, fun h => by cases h⟩

theorem over : Rows.fnMatchNamesOneNameIsMatchNameRow.holds Try.pinned (OpenSpec.ofChange Rows.fnMatchNamesOneNameIsMatchNameSpec) :=
  OpenClaim.holds_of_wide 8 Try.f8 rfl rfl rfl rfl rfl rfl rfl ⟨rfl, rfl, rfl, rfl, rfl⟩ rfl rfl rfl rfl rfl (by kernel_rfl) Try.func8 closed8
    (of_decide_eq_true (by kernel_rfl)) (by unfold Func.isWrapper; first | (rw [if_pos (by decide +kernel)]; kernel_rfl) | (rw [if_neg (by decide +kernel)]; exact ⟨rfl, rfl⟩))
    (fun os started H enc _ => lifted os started H enc)

/-- THE STATEMENT. -/
theorem proved : Rows.FnMatchNamesOneNameIsMatchNameSaid := over
end Go.Proofs.Qxb6602913a.fnMatchNamesOneNameIsMatchName
