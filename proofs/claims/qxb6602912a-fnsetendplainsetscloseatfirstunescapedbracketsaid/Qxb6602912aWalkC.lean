import Derived.Test.Qxb6602912aWalkB
namespace Go.Proofs.Qxb6602912a.fnSetEndPlainSetsCloseAtFirstUnescapedBracket
open Go.RowKit
set_option linter.unusedVariables false

/-! ### STEP 1: THE WALK: the Go text returns true. 'Grown w w'': the world has at most new blocks (Derived/RowKit3.lean). Part the cases AHEAD of 'go_enter' where a test parts the walk; take each callee by a contract of your own. -/
set_option maxHeartbeats 400000 in
theorem bytes24 (s : ByteArray) (p : Int) (w : World) (h : s.size ≤ 1048576) :
    Calls Try.prog 24 #[.string s, .int .i64 p] w fun e w' => e = .returned (.bool true) ∧ w' = w := by
  go_enter Try.func24, Try.ntmps24
  go_wp2
  go_ret
  exact ⟨rfl, rfl⟩
set_option maxHeartbeats 400000 in
theorem bytes24n (s : ByteArray) (p : Int) (w : World) (h : ¬ s.size ≤ 1048576) :
    Calls Try.prog 24 #[.string s, .int .i64 p] w fun e w' => e = .returned (.bool false) ∧ w' = w := by
  go_enter Try.func24, Try.ntmps24
  go_wp2
  go_ret
  exact ⟨rfl, rfl⟩

/-! An offset past the end: each of the three loops is over at once. -/
set_option maxHeartbeats 400000 in
theorem model_past (s : ByteArray) (i : Int) (w : World) (h0 : 0 ≤ i) (h : (s.size : Int) ≤ i) :
    Calls Try.prog 25 #[.string s, .int .i64 i] w fun e w' => e = .returned (.tuple #[.int .i64 0, .bool false]) ∧ w' = w := by
  go_enter Try.func25, Try.ntmps25
  go_wp2
  refine wp_loop_rounds 1 ?_
  rw [rounds_succ]
  go_wp2
  go_ret2
  exact ⟨rfl, rfl⟩
set_option maxHeartbeats 400000 in
theorem opener_past (s : ByteArray) (i : Int) (w : World) (h0 : 0 ≤ i) (h : (s.size : Int) ≤ i) :
    Calls Try.prog 26 #[.string s, .int .i64 i, .int .i64 (s.size : Int)] w fun e w' => e = .returned (.bool false) ∧ w' = w := by
  go_enter Try.func26, Try.ntmps26
  go_wp2
  refine wp_loop_rounds 1 ?_
  rw [rounds_succ]
  go_wp2
  go_ret
  exact ⟨rfl, rfl⟩
set_option maxHeartbeats 400000 in
theorem setEnd_past (s : ByteArray) (i : Int) (w : World) (h0 : 0 ≤ i) (h : (s.size : Int) ≤ i) :
    Calls Try.prog 35 #[.string s, .int .i64 i] w fun e w' => e = .returned (.tuple #[.int .i64 0, .bool false]) ∧ w' = w := by
  go_enter Try.func35, Try.ntmps35
  go_wp2
  refine wp_loop_rounds 1 ?_
  rw [rounds_succ]
  go_wp2
  go_ret2
  exact ⟨rfl, rfl⟩
set_option maxHeartbeats 400000 in
theorem zzSetEnd_past (s : ByteArray) (i : Int) (w : World) (h0 : 0 ≤ i) (h : (s.size : Int) ≤ i) :
    Calls Try.prog 27 #[.string s, .int .i64 i] w fun e w' => e = .returned (.tuple #[.int .i64 0, .bool false]) ∧ w' = w := by
  go_enter Try.func27, Try.ntmps27
  go_wp2_with (go_at_call 35; refine (setEnd_past _ _ _ h0 h).mono ?_; rintro e w1 ⟨rfl, hw1⟩; subst w1)
  go_ret2
  exact ⟨rfl, rfl⟩

set_option maxHeartbeats 1000000 in
set_option maxRecDepth 100000 in
theorem walk (a0 : ByteArray) (a1 : Int) (w0 : a0.size ≤ maxLen) (w1 : (Lit.int .i64 a1).wf = true) (w : World) :
    Calls Try.prog 8 #[.string a0, .int .i64 a1] w fun e w' => e = .returned (.bool true) ∧ Grown w w' := by
  by_cases hs : a0.size ≤ 1048576
  · by_cases h0 : a1 < 0
    · go_enter Try.func8, Try.ntmps8
      go_wp2_with (go_at_call 24; refine (bytes24 _ _ _ hs).mono ?_; rintro e w1 ⟨rfl, hw1⟩; subst w1)
      go_ret
      exact ⟨rfl, Grown.refl _⟩
    · have h0' : 0 ≤ a1 := by omega
      by_cases h1 : (a0.size : Int) ≤ a1
      · go_enter Try.func8, Try.ntmps8
        go_wp2_with (first | (go_at_call 24; refine (bytes24 _ _ _ hs).mono ?_; rintro e w1 ⟨rfl, hw1⟩; subst w1) | (go_at_call 25; refine (model_past _ _ _ h0' h1).mono ?_; rintro e w1 ⟨rfl, hw1⟩; subst w1) | (go_at_call 26; refine (opener_past _ _ _ h0' h1).mono ?_; rintro e w1 ⟨rfl, hw1⟩; subst w1) | (go_at_call 27; refine (zzSetEnd_past _ _ _ h0' h1).mono ?_; rintro e w1 ⟨rfl, hw1⟩; subst w1))
        go_ret
        exact ⟨rfl, Grown.refl _⟩
      · obtain ⟨i, rfl⟩ := Int.eq_ofNat_of_zero_le h0'
        have hi : i ≤ a0.size := by omega
        cases ht : Se.tgt a0.data.toList i with
        | none =>
          have hl : Se.lim a0.data.toList i = a0.size := by unfold Se.lim; rw [ht]; exact len_eq a0
          have hr : retE a0.data.toList i = .returned (.tuple #[.int .i64 0, .bool false]) := (ret_none ht).symm
          have HL : Hid (Se.lim a0.data.toList i = a0.size) := hl
          have HR : Hid (retE a0.data.toList i = .returned (.tuple #[.int .i64 0, .bool false])) := hr
          clear ht hl hr
          go_enter Try.func8, Try.ntmps8
          go_wp2_with (go_at_call 24; refine (bytes24 _ _ _ hs).mono ?_; rintro e w1 ⟨rfl, hw1⟩; subst w1)
          refine (model_any a0 i w hs hi).mono ?_
          rintro e w1 ⟨he, hw1⟩
          rw [HR.out] at he
          subst he
          subst w1
          go_wp2_with fail
          refine (opener_any a0 i a0.size w hs hi (Nat.le_refl _)).mono ?_
          rintro e w1 ⟨t, rfl, hno, hw1⟩
          subst w1
          cases t with
          | true =>
            clear hno
            go_wp2_with fail
            go_ret
            exact ⟨rfl, Grown.refl _⟩
          | false =>
            have HN : Hid (∀ k, i ≤ k → k < Se.lim a0.data.toList i → Se.opB a0.data.toList k = false) := by rw [HL.out]; exact hno rfl
            clear hno
            go_wp2_with fail
            refine (zzSetEnd_any a0 i w hs hi HN).mono ?_
            rintro e w1 ⟨he, hw1⟩
            rw [HR.out] at he
            subst he
            subst w1
            go_wp2_with fail
            go_ret
            exact ⟨rfl, Grown.refl _⟩
        | some e =>
          have hbd := Se.tgt_bd _ _ _ ht
          rw [len_eq] at hbd
          obtain ⟨n, rfl⟩ : ∃ n, e = n + 1 := ⟨e - 1, by omega⟩
          have hl : Se.lim a0.data.toList i = n := by unfold Se.lim; rw [ht]; rfl
          have hr : retE a0.data.toList i = .returned (.tuple #[.int .i64 ((n + 1 : Nat) : Int), .bool true]) := (ret_some ht).symm
          have HL : Hid (Se.lim a0.data.toList i = n) := hl
          have HR : Hid (retE a0.data.toList i = .returned (.tuple #[.int .i64 ((n + 1 : Nat) : Int), .bool true])) := hr
          clear ht hl hr
          go_enter Try.func8, Try.ntmps8
          go_wp2_with (go_at_call 24; refine (bytes24 _ _ _ hs).mono ?_; rintro e w1 ⟨rfl, hw1⟩; subst w1)
          refine (model_any a0 i w hs hi).mono ?_
          rintro e w1 ⟨he, hw1⟩
          rw [HR.out] at he
          subst he
          subst w1
          go_wp2_with fail
          refine (opener_any a0 i n w hs hi (by omega)).mono ?_
          rintro e w1 ⟨t, rfl, hno, hw1⟩
          subst w1
          cases t with
          | true =>
            clear hno
            go_wp2_with fail
            go_ret
            exact ⟨rfl, Grown.refl _⟩
          | false =>
            have HN : Hid (∀ k, i ≤ k → k < Se.lim a0.data.toList i → Se.opB a0.data.toList k = false) := by rw [HL.out]; exact hno rfl
            clear hno
            go_wp2_with fail
            refine (zzSetEnd_any a0 i w hs hi HN).mono ?_
            rintro e w1 ⟨he, hw1⟩
            rw [HR.out] at he
            subst he
            subst w1
            go_wp2_with fail
            go_ret
            exact ⟨rfl, Grown.refl _⟩
  · go_enter Try.func8, Try.ntmps8
    go_wp2_with (go_at_call 24; refine (bytes24n _ _ _ hs).mono ?_; rintro e w1 ⟨rfl, hw1⟩; subst w1)
    go_ret
    exact ⟨rfl, Grown.refl _⟩

end Go.Proofs.Qxb6602912a.fnSetEndPlainSetsCloseAtFirstUnescapedBracket
