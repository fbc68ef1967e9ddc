import Derived.Test.Qxb6601994aRows
import Derived.WalkKit
import Derived.ProofKit
import Derived.OpenShut
import Derived.ShutString
import Derived.Test.Qxb6601994aWalkB
import Derived.Test.Qxb6601994aLaw
namespace Go.Proofs.Qxb6601994a.fnFloatEndIgnoresWhatComesBefore
open Go.ChangeShapes Go.WideShapes Go.ChangeAt Go.RowKit
open Go.ChangeMaps (open_string shut_string)
set_option linter.unusedVariables false      -- a walk need not use every 'w<i>' (that an integer argument fits its kind)

theorem own : ownKnob Try.prog.godebug = none := by kernel_rfl

/-! ### STEP 1: THE WALK: the Go text returns true. 'Grown w w'': the world has at most new blocks (Derived/RowKit3.lean). Part the cases AHEAD of 'go_enter' where a test parts the walk; take each callee by a contract of your own. -/
set_option maxHeartbeats 400000 in
theorem bytes10 (p s : ByteArray) (i : Int) (w : World) (h : p.size + s.size ≤ 1048576) :
    Calls Try.prog 10 #[.string p, .string s, .int .i64 i] w fun e w' => e = .returned (.bool true) ∧ w' = w := by
  have h1 : p.size ≤ 1048576 := by omega
  have h2 : s.size ≤ 1048576 := by omega
  go_enter Try.func10, Try.ntmps10
  go_wp2
  go_ret
  exact ⟨rfl, rfl⟩
set_option maxHeartbeats 400000 in
theorem bytes10n (p s : ByteArray) (i : Int) (w : World) (hp : p.size ≤ maxLen) (hs : s.size ≤ maxLen) (h : ¬ p.size + s.size ≤ 1048576) :
    Calls Try.prog 10 #[.string p, .string s, .int .i64 i] w fun e w' => e = .returned (.bool false) ∧ w' = w := by
  unfold maxLen at hp hs
  by_cases h1 : p.size ≤ 1048576
  · by_cases h2 : s.size ≤ 1048576
    · go_enter Try.func10, Try.ntmps10
      go_wp2
      go_ret
      exact ⟨rfl, rfl⟩
    · go_enter Try.func10, Try.ntmps10
      go_wp2
      go_ret
      exact ⟨rfl, rfl⟩
  · go_enter Try.func10, Try.ntmps10
    go_wp2
    go_ret
    exact ⟨rfl, rfl⟩

set_option maxHeartbeats 1000000 in
set_option maxRecDepth 100000 in
theorem walk (a0 : ByteArray) (a1 : ByteArray) (a2 : Int) (w0 : a0.size ≤ maxLen) (w1 : a1.size ≤ maxLen) (w2 : (Lit.int .i64 a2).wf = true) (w : World) :
    Calls Try.prog 5 #[.string a0, .string a1, .int .i64 a2] w fun e w' => e = .returned (.bool true) ∧ Grown w w' := by
  by_cases hs : a0.size + a1.size ≤ 1048576
  · by_cases hq0 : a0.size ≤ 524288
    · by_cases hq1 : a1.size ≤ 524288
      · by_cases h0 : a2 < 0
        · go_enter Try.func5, Try.ntmps5
          go_wp2_with (go_at_call 10; refine (bytes10 _ _ _ _ hs).mono ?_; rintro e w1 ⟨rfl, hw1⟩; subst w1)
          go_ret
          exact ⟨rfl, Grown.refl _⟩
        · by_cases h1 : (a1.size : Int) < a2
          · go_enter Try.func5, Try.ntmps5
            go_wp2_with (go_at_call 10; refine (bytes10 _ _ _ _ hs).mono ?_; rintro e w1 ⟨rfl, hw1⟩; subst w1)
            go_ret
            exact ⟨rfl, Grown.refl _⟩
          · obtain ⟨p, rfl⟩ := Int.eq_ofNat_of_zero_le (show 0 ≤ a2 by omega)
            have hp : p ≤ a1.size := by omega
            have hle := Fl.fe_le a1.data.toList p (by rw [len_eq]; exact hp)
            rw [len_eq] at hle
            have hsh := Fl.fe_shift a0.data.toList a1.data.toList p
            rw [len_eq] at hsh
            have Hsh : Hid (Fl.fe (a0.data.toList ++ a1.data.toList) (a0.size + p) = (a0.size + (Fl.fe a1.data.toList p).1, (Fl.fe a1.data.toList p).2)) := hsh
            clear hsh
            go_enter Try.func5, Try.ntmps5
            go_wp2_with (go_at_call 10; refine (bytes10 _ _ _ _ hs).mono ?_; rintro e w1 ⟨rfl, hw1⟩; subst w1)
            refine (zzFloatEnd_any a1 (p : Int) w (by omega) (by omega) (by omega)).mono ?_
            rintro e w1 ⟨rfl, hg1⟩
            rw [Int.toNat_natCast]
            generalize Fl.fe a1.data.toList p = nf at *
            obtain ⟨n, f⟩ := nf
            simp only at hle
            obtain ⟨hn1, hn2⟩ := hle
            go_wp2_with fail
            have hx : (a0 ++ a1).data.toList = a0.data.toList ++ a1.data.toList := by simp
            have hz : (a0 ++ a1).size = a0.size + a1.size := ByteArray.size_append
            refine (zzFloatEnd_any (a0 ++ a1) ((a0.size : Int) + (p : Int)) w1 (by omega) (by omega) (by omega)).mono ?_
            rintro e w2 ⟨rfl, hg2⟩
            rw [show ((a0.size : Int) + (p : Int)).toNat = a0.size + p by omega, hx, show Fl.fe (a0.data.toList ++ a1.data.toList) (a0.size + p) = (a0.size + n, f) from Hsh]
            clear Hsh hx hz
            have hsub : (((a0.size + n : Nat) : Int) == (n : Int) + (a0.size : Int)) = true := by rw [beq_iff_eq]; omega
            go_wp2_with fail
            go_ret
            exact ⟨rfl, grown_trans hg1 hg2⟩
      · go_enter Try.func5, Try.ntmps5
        go_wp2_with (go_at_call 10; refine (bytes10 _ _ _ _ hs).mono ?_; rintro e w1 ⟨rfl, hw1⟩; subst w1)
        go_ret
        exact ⟨rfl, Grown.refl _⟩
    · go_enter Try.func5, Try.ntmps5
      go_wp2_with (go_at_call 10; refine (bytes10 _ _ _ _ hs).mono ?_; rintro e w1 ⟨rfl, hw1⟩; subst w1)
      go_ret
      exact ⟨rfl, Grown.refl _⟩
  · go_enter Try.func5, Try.ntmps5
    go_wp2_with (go_at_call 10; refine (bytes10n _ _ _ _ w0 w1 hs).mono ?_; rintro e w1 ⟨rfl, hw1⟩; subst w1)
    go_ret
    exact ⟨rfl, Grown.refl _⟩

/-! ### THE ROW's STEP: WRITTEN OUT: LEAVE IT -/
set_option maxRecDepth 100000 in
theorem lifted (os : Os) (started : os.Started) (H : Type) (enc : TypeId × Value → H) :
    ReturnsInHanded {} Try.checked os 5 .any (Rows.fnFloatEndIgnoresWhatComesBeforeSpec.pre6 enc Try.prog Try.f5 Rows.fnFloatEndIgnoresWhatComesBeforeRow.domain false) (Rows.fnFloatEndIgnoresWhatComesBeforeSpec.post enc Try.prog Try.f5 false true false false) := by
  refine returnsInHanded_of_change (C := Try.checked) own started (by kernel_rfl) Try.func5
    (ChangeSpec.witness6 (enc := enc) (C := Try.checked) false ⟨#[], #[.string ByteArray.empty, .string ByteArray.empty, .int .i64 0], []⟩ 8 (by kernel_rfl) (by kernel_rfl) (by kernel_rfl) (by kernel_rfl)) ?_
  intro W base args ds gs before hval0 hW hcnd _
  have hval : ∀ (j : Nat) t v, Try.f5.params[j]? = some t → args[j]? = some v → Value.okWide Try.prog W .any base t v := hval0
  have hW' := hW
  obtain ⟨p, q, hA0, hV, rfl, hfz, hnd⟩ := hW
  have hA : DataW.TrodAll enc Try.prog W 0 (fun _ => true) true Try.f5.params.toList args.toList ds p := hA0
  rw [Try.params5] at hA hval
  obtain ⟨v0, vs0, d0, ds0, p0, q0, hargs, rfl, rfl, h0, r0⟩ := trodAll_cons hA
  obtain ⟨v1, vs1, d1, ds1, p1, q1, rfl, rfl, rfl, h1, r1⟩ := trodAll_cons r0
  obtain ⟨v2, vs2, d2, ds2, p2, q2, rfl, rfl, rfl, h2, r2⟩ := trodAll_cons r1
  obtain ⟨rfl, rfl, rfl⟩ := trodAll_nil r2
  obtain rfl : args = #[v0, v1, v2] := by cases args; simp_all
  obtain ⟨rfl, rfl⟩ := trodVars_none hV
  obtain ⟨a0, rfl, rfl, rfl, w0⟩ := open_string Try.underlying9 (hval 0 9 v0 rfl rfl) h0
  obtain ⟨a1, rfl, rfl, rfl, w1⟩ := open_string Try.underlying9 (hval 1 9 v1 rfl rfl) h1
  obtain ⟨a2, rfl, rfl, rfl, w2⟩ := open_int Try.underlying3 (hval 2 3 v2 rfl rfl) h2
  clear hA0 hval0
  simp only [List.append_nil] at hW'
  refine (walk a0 a1 a2 w0 w1 w2 W).mono fun e W' ⟨he, hg⟩ => ?_
  subst he
  exact ⟨_, rfl, post_of_same (pa := []) (pv := []) hW' (fun _ _ _ => (trodAll_cons_mk (shut_bool Try.underlying4 _) trodAll_mk0)) (fun sp _ => (trodAll_cons_mk (shut_string Try.underlying9 w0) (trodAll_cons_mk (shut_string Try.underlying9 w1) (trodAll_cons_mk (shut_int Try.underlying3 w2) trodAll_mk0)))) (fun _ _ => rfl) rfl
    (hg.frame _) hg.2.1 (ok_one (by kernel_rfl) rfl (okWide_bool_mk Try.underlying4 _))⟩

theorem over : Rows.fnFloatEndIgnoresWhatComesBeforeRow.holds Try.pinned (OpenSpec.ofChange Rows.fnFloatEndIgnoresWhatComesBeforeSpec) :=
  OpenClaim.holds_of_wide 5 Try.f5 rfl rfl rfl rfl rfl rfl rfl ⟨rfl, rfl, rfl, rfl, rfl⟩ rfl rfl rfl rfl rfl (by kernel_rfl) Try.func5 (by kernel_rfl)
    (of_decide_eq_true (by kernel_rfl)) (by unfold Func.isWrapper; first | (rw [if_pos (by decide +kernel)]; kernel_rfl) | (rw [if_neg (by decide +kernel)]; exact ⟨rfl, rfl⟩))
    (fun os started H enc _ => lifted os started H enc)

/-- ████ THE STATEMENT ████ -/
theorem proved : Rows.FnFloatEndIgnoresWhatComesBeforeSaid :=
  over
end Go.Proofs.Qxb6601994a.fnFloatEndIgnoresWhatComesBefore
