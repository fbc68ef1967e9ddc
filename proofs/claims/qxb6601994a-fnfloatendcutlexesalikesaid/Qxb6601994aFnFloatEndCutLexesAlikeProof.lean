import Derived.Test.Qxb6601994aRows
import Derived.WalkKit
import Derived.ProofKit
import Derived.OpenShut
import Derived.ShutString
import Derived.Test.Qxb6601994aWalkB
import Derived.Test.Qxb6601994aLaw
namespace Go.Proofs.Qxb6601994a.fnFloatEndCutLexesAlike
open Go.ChangeShapes Go.WideShapes Go.ChangeAt Go.RowKit
open Go.ChangeMaps (open_string shut_string)
set_option linter.unusedVariables false      -- a walk need not use every 'w<i>' (that an integer argument fits its kind)

theorem own : ownKnob Try.prog.godebug = none := by kernel_rfl

/-! ### STEP 1: THE WALK: the Go text returns true. 'Grown w w'': the world has at most new blocks (Derived/RowKit3.lean). Part the cases AHEAD of 'go_enter' where a test parts the walk; take each callee by a contract of your own. -/
set_option maxHeartbeats 400000 in
theorem bytes9 (s : ByteArray) (p : Int) (w : World) (h : s.size ≤ 1048576) :
    Calls Try.prog 9 #[.string s, .int .i64 p] w fun e w' => e = .returned (.bool true) ∧ w' = w := by
  go_enter Try.func9, Try.ntmps9
  go_wp2
  go_ret
  exact ⟨rfl, rfl⟩
set_option maxHeartbeats 400000 in
theorem bytes9n (s : ByteArray) (p : Int) (w : World) (h : ¬ s.size ≤ 1048576) :
    Calls Try.prog 9 #[.string s, .int .i64 p] w fun e w' => e = .returned (.bool false) ∧ w' = w := by
  go_enter Try.func9, Try.ntmps9
  go_wp2
  go_ret
  exact ⟨rfl, rfl⟩

set_option maxHeartbeats 1000000 in
set_option maxRecDepth 100000 in
theorem walk (a0 : ByteArray) (a1 : Int) (w0 : a0.size ≤ maxLen) (w1 : (Lit.int .i64 a1).wf = true) (w : World) :
    Calls Try.prog 4 #[.string a0, .int .i64 a1] w fun e w' => e = .returned (.bool true) ∧ Grown w w' := by
  by_cases hs : a0.size ≤ 1048576
  · by_cases h0 : a1 < 0
    · go_enter Try.func4, Try.ntmps4
      go_wp2_with (go_at_call 9; refine (bytes9 _ _ _ hs).mono ?_; rintro e w1 ⟨rfl, hw1⟩; subst w1)
      go_ret
      exact ⟨rfl, Grown.refl _⟩
    · by_cases h1 : (a0.size : Int) < a1
      · go_enter Try.func4, Try.ntmps4
        go_wp2_with (go_at_call 9; refine (bytes9 _ _ _ hs).mono ?_; rintro e w1 ⟨rfl, hw1⟩; subst w1)
        go_ret
        exact ⟨rfl, Grown.refl _⟩
      · obtain ⟨p, rfl⟩ := Int.eq_ofNat_of_zero_le (show 0 ≤ a1 by omega)
        have hp : p ≤ a0.size := by omega
        have hle := Fl.fe_le a0.data.toList p (by rw [len_eq]; exact hp)
        rw [len_eq] at hle
        have hcut := Fl.fe_take a0.data.toList p
        have halone := Fl.fe_alone a0.data.toList p (by rw [len_eq]; exact hp)
        have Hcut : Hid (Fl.fe (a0.data.toList.take (Fl.fe a0.data.toList p).1) p = Fl.fe a0.data.toList p) := hcut
        have Halone : Hid (Fl.fe ((a0.data.toList.take (Fl.fe a0.data.toList p).1).drop p) 0 = ((Fl.fe a0.data.toList p).1 - p, (Fl.fe a0.data.toList p).2)) := halone
        clear hcut halone
        go_enter Try.func4, Try.ntmps4
        go_wp2_with (go_at_call 9; refine (bytes9 _ _ _ hs).mono ?_; rintro e w1 ⟨rfl, hw1⟩; subst w1)
        refine (zzFloatEnd_any a0 (p : Int) w hs (by omega) (by omega)).mono ?_
        rintro e w1 ⟨rfl, hg1⟩
        rw [Int.toNat_natCast]
        generalize Fl.fe a0.data.toList p = nf at *
        obtain ⟨n, f⟩ := nf
        simp only at hle
        obtain ⟨hn1, hn2⟩ := hle
        go_wp2_with fail
        have hx : (a0.extract p n).data.toList = (a0.data.toList.take n).drop p := extract_list a0 p n
        have hy : (a0.extract 0 n).data.toList = a0.data.toList.take n := by rw [extract_list]; rfl
        refine (zzFloatEnd_any (a0.extract p n) 0 w1 (by simp only [ByteArray.size_extract]; omega) (by omega) (by omega)).mono ?_
        rintro e w2 ⟨rfl, hg2⟩
        rw [Int.toNat_zero, hx, show Fl.fe ((a0.data.toList.take n).drop p) 0 = (n - p, f) from Halone]
        clear Halone hx
        go_wp2_with fail
        refine (zzFloatEnd_any (a0.extract 0 n) (p : Int) w2 (by simp only [ByteArray.size_extract]; omega) (by omega) (by simp only [ByteArray.size_extract]; omega)).mono ?_
        rintro e w3 ⟨rfl, hg3⟩
        rw [Int.toNat_natCast, hy, show Fl.fe (a0.data.toList.take n) p = (n, f) from Hcut]
        clear Hcut hy
        have hsub : (((n - p : Nat) : Int) == (n : Int) - (p : Int)) = true := by rw [beq_iff_eq]; omega
        go_wp2_with fail
        go_ret
        exact ⟨rfl, grown_trans (grown_trans hg1 hg2) hg3⟩
  · go_enter Try.func4, Try.ntmps4
    go_wp2_with (go_at_call 9; refine (bytes9n _ _ _ hs).mono ?_; rintro e w1 ⟨rfl, hw1⟩; subst w1)
    go_ret
    exact ⟨rfl, Grown.refl _⟩

/-! ### THE ROW's STEP: WRITTEN OUT: LEAVE IT -/
set_option maxRecDepth 100000 in
theorem lifted (os : Os) (started : os.Started) (H : Type) (enc : TypeId × Value → H) :
    ReturnsInHanded {} Try.checked os 4 .any (Rows.fnFloatEndCutLexesAlikeSpec.pre6 enc Try.prog Try.f4 Rows.fnFloatEndCutLexesAlikeRow.domain false) (Rows.fnFloatEndCutLexesAlikeSpec.post enc Try.prog Try.f4 false true false false) := by
  refine returnsInHanded_of_change (C := Try.checked) own started (by kernel_rfl) Try.func4
    (ChangeSpec.witness6 (enc := enc) (C := Try.checked) false ⟨#[], #[.string ByteArray.empty, .int .i64 0], []⟩ 8 (by kernel_rfl) (by kernel_rfl) (by kernel_rfl) (by kernel_rfl)) ?_
  intro W base args ds gs before hval0 hW hcnd _
  have hval : ∀ (j : Nat) t v, Try.f4.params[j]? = some t → args[j]? = some v → Value.okWide Try.prog W .any base t v := hval0
  have hW' := hW
  obtain ⟨p, q, hA0, hV, rfl, hfz, hnd⟩ := hW
  have hA : DataW.TrodAll enc Try.prog W 0 (fun _ => true) true Try.f4.params.toList args.toList ds p := hA0
  rw [Try.params4] at hA hval
  obtain ⟨v0, vs0, d0, ds0, p0, q0, hargs, rfl, rfl, h0, r0⟩ := trodAll_cons hA
  obtain ⟨v1, vs1, d1, ds1, p1, q1, rfl, rfl, rfl, h1, r1⟩ := trodAll_cons r0
  obtain ⟨rfl, rfl, rfl⟩ := trodAll_nil r1
  obtain rfl : args = #[v0, v1] := by cases args; simp_all
  obtain ⟨rfl, rfl⟩ := trodVars_none hV
  obtain ⟨a0, rfl, rfl, rfl, w0⟩ := open_string Try.underlying9 (hval 0 9 v0 rfl rfl) h0
  obtain ⟨a1, rfl, rfl, rfl, w1⟩ := open_int Try.underlying3 (hval 1 3 v1 rfl rfl) h1
  clear hA0 hval0
  simp only [List.append_nil] at hW'
  refine (walk a0 a1 w0 w1 W).mono fun e W' ⟨he, hg⟩ => ?_
  subst he
  exact ⟨_, rfl, post_of_same (pa := []) (pv := []) hW' (fun _ _ _ => (trodAll_cons_mk (shut_bool Try.underlying4 _) trodAll_mk0)) (fun sp _ => (trodAll_cons_mk (shut_string Try.underlying9 w0) (trodAll_cons_mk (shut_int Try.underlying3 w1) trodAll_mk0))) (fun _ _ => rfl) rfl
    (hg.frame _) hg.2.1 (ok_one (by kernel_rfl) rfl (okWide_bool_mk Try.underlying4 _))⟩

theorem over : Rows.fnFloatEndCutLexesAlikeRow.holds Try.pinned (OpenSpec.ofChange Rows.fnFloatEndCutLexesAlikeSpec) :=
  OpenClaim.holds_of_wide 4 Try.f4 rfl rfl rfl rfl rfl rfl rfl ⟨rfl, rfl, rfl, rfl, rfl⟩ rfl rfl rfl rfl rfl (by kernel_rfl) Try.func4 (by kernel_rfl)
    (of_decide_eq_true (by kernel_rfl)) (by unfold Func.isWrapper; first | (rw [if_pos (by decide +kernel)]; kernel_rfl) | (rw [if_neg (by decide +kernel)]; exact ⟨rfl, rfl⟩))
    (fun os started H enc _ => lifted os started H enc)

/-- ████ THE STATEMENT ████ -/
theorem proved : Rows.FnFloatEndCutLexesAlikeSaid :=
  over
end Go.Proofs.Qxb6601994a.fnFloatEndCutLexesAlike
