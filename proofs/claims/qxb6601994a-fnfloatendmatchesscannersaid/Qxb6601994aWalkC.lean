import Derived.Test.Qxb6601994aWalkB
import Derived.Test.Qxb6601994aAuto
namespace Go.Proofs.Qxb6601994a
open Go.RowKit
set_option linter.unusedSimpArgs false

theorem eq0 (c : Int) : Fl.step 0 c = if 48 ≤ c ∧ c ≤ 57 then 1 else if c = 46 then 3 else if c = 101 ∨ c = 69 then 6 else 10 := by simp [Fl.step, Fl.isI]
theorem eq1 (c : Int) : Fl.step 1 c = if 48 ≤ c ∧ c ≤ 57 then 1 else if c = 95 then 2 else if c = 46 then 3 else if c = 101 ∨ c = 69 then 6 else 10 := by simp [Fl.step, Fl.isI]
theorem eq2 (c : Int) : Fl.step 2 c = if 48 ≤ c ∧ c ≤ 57 then 1 else 10 := by simp [Fl.step, Fl.isI]
theorem eq3 (c : Int) : Fl.step 3 c = if 48 ≤ c ∧ c ≤ 57 then 4 else 10 := by simp [Fl.step, Fl.isI]
theorem eq4 (c : Int) : Fl.step 4 c = if 48 ≤ c ∧ c ≤ 57 then 4 else if c = 95 then 5 else if c = 101 ∨ c = 69 then 6 else 10 := by simp [Fl.step, Fl.isI]
theorem eq5 (c : Int) : Fl.step 5 c = if 48 ≤ c ∧ c ≤ 57 then 4 else 10 := by simp [Fl.step, Fl.isI]
theorem eq6 (c : Int) : Fl.step 6 c = if 48 ≤ c ∧ c ≤ 57 then 8 else if c = 43 ∨ c = 45 then 7 else 10 := by simp [Fl.step, Fl.isI]
theorem eq7 (c : Int) : Fl.step 7 c = if 48 ≤ c ∧ c ≤ 57 then 8 else 10 := by simp [Fl.step, Fl.isI]
theorem eq8 (c : Int) : Fl.step 8 c = if 48 ≤ c ∧ c ≤ 57 then 8 else if c = 95 then 9 else 10 := by simp [Fl.step, Fl.isI]
theorem eq9 (c : Int) : Fl.step 9 c = if 48 ≤ c ∧ c ≤ 57 then 8 else 10 := by simp [Fl.step, Fl.isI]

set_option maxHeartbeats 1000000 in
set_option maxRecDepth 100000 in
theorem step0 (c : Int) (w : World) : Calls Try.prog 12 #[.int .i64 0, .int .u8 c] w fun e w' => e = .returned (.int .i64 (Fl.step 0 c)) ∧ w' = w := by
  go_enter Try.func12, Try.ntmps12
  go_wp2
  all_goals
    go_ret
    refine ⟨ret_i64 ?_, rfl⟩
    rw [eq0]
    try simp only [beq_iff_eq, beq_eq_false_iff_ne, ne_eq] at *
    first | omega | decide | simp

set_option maxHeartbeats 1000000 in
set_option maxRecDepth 100000 in
theorem step1 (c : Int) (w : World) : Calls Try.prog 12 #[.int .i64 1, .int .u8 c] w fun e w' => e = .returned (.int .i64 (Fl.step 1 c)) ∧ w' = w := by
  go_enter Try.func12, Try.ntmps12
  go_wp2
  all_goals
    go_ret
    refine ⟨ret_i64 ?_, rfl⟩
    rw [eq1]
    try simp only [beq_iff_eq, beq_eq_false_iff_ne, ne_eq] at *
    first | omega | decide | simp

set_option maxHeartbeats 1000000 in
set_option maxRecDepth 100000 in
theorem step2 (c : Int) (w : World) : Calls Try.prog 12 #[.int .i64 2, .int .u8 c] w fun e w' => e = .returned (.int .i64 (Fl.step 2 c)) ∧ w' = w := by
  go_enter Try.func12, Try.ntmps12
  go_wp2
  all_goals
    go_ret
    refine ⟨ret_i64 ?_, rfl⟩
    rw [eq2]
    try simp only [beq_iff_eq, beq_eq_false_iff_ne, ne_eq] at *
    first | omega | decide | simp

set_option maxHeartbeats 1000000 in
set_option maxRecDepth 100000 in
theorem step3 (c : Int) (w : World) : Calls Try.prog 12 #[.int .i64 3, .int .u8 c] w fun e w' => e = .returned (.int .i64 (Fl.step 3 c)) ∧ w' = w := by
  go_enter Try.func12, Try.ntmps12
  go_wp2
  all_goals
    go_ret
    refine ⟨ret_i64 ?_, rfl⟩
    rw [eq3]
    try simp only [beq_iff_eq, beq_eq_false_iff_ne, ne_eq] at *
    first | omega | decide | simp

set_option maxHeartbeats 1000000 in
set_option maxRecDepth 100000 in
theorem step4 (c : Int) (w : World) : Calls Try.prog 12 #[.int .i64 4, .int .u8 c] w fun e w' => e = .returned (.int .i64 (Fl.step 4 c)) ∧ w' = w := by
  go_enter Try.func12, Try.ntmps12
  go_wp2
  all_goals
    go_ret
    refine ⟨ret_i64 ?_, rfl⟩
    rw [eq4]
    try simp only [beq_iff_eq, beq_eq_false_iff_ne, ne_eq] at *
    first | omega | decide | simp

set_option maxHeartbeats 1000000 in
set_option maxRecDepth 100000 in
theorem step5 (c : Int) (w : World) : Calls Try.prog 12 #[.int .i64 5, .int .u8 c] w fun e w' => e = .returned (.int .i64 (Fl.step 5 c)) ∧ w' = w := by
  go_enter Try.func12, Try.ntmps12
  go_wp2
  all_goals
    go_ret
    refine ⟨ret_i64 ?_, rfl⟩
    rw [eq5]
    try simp only [beq_iff_eq, beq_eq_false_iff_ne, ne_eq] at *
    first | omega | decide | simp

set_option maxHeartbeats 1000000 in
set_option maxRecDepth 100000 in
theorem step6 (c : Int) (w : World) : Calls Try.prog 12 #[.int .i64 6, .int .u8 c] w fun e w' => e = .returned (.int .i64 (Fl.step 6 c)) ∧ w' = w := by
  go_enter Try.func12, Try.ntmps12
  go_wp2
  all_goals
    go_ret
    refine ⟨ret_i64 ?_, rfl⟩
    rw [eq6]
    try simp only [beq_iff_eq, beq_eq_false_iff_ne, ne_eq] at *
    first | omega | decide | simp

set_option maxHeartbeats 1000000 in
set_option maxRecDepth 100000 in
theorem step7 (c : Int) (w : World) : Calls Try.prog 12 #[.int .i64 7, .int .u8 c] w fun e w' => e = .returned (.int .i64 (Fl.step 7 c)) ∧ w' = w := by
  go_enter Try.func12, Try.ntmps12
  go_wp2
  all_goals
    go_ret
    refine ⟨ret_i64 ?_, rfl⟩
    rw [eq7]
    try simp only [beq_iff_eq, beq_eq_false_iff_ne, ne_eq] at *
    first | omega | decide | simp

set_option maxHeartbeats 1000000 in
set_option maxRecDepth 100000 in
theorem step8 (c : Int) (w : World) : Calls Try.prog 12 #[.int .i64 8, .int .u8 c] w fun e w' => e = .returned (.int .i64 (Fl.step 8 c)) ∧ w' = w := by
  go_enter Try.func12, Try.ntmps12
  go_wp2
  all_goals
    go_ret
    refine ⟨ret_i64 ?_, rfl⟩
    rw [eq8]
    try simp only [beq_iff_eq, beq_eq_false_iff_ne, ne_eq] at *
    first | omega | decide | simp

set_option maxHeartbeats 1000000 in
set_option maxRecDepth 100000 in
theorem step9 (c : Int) (w : World) : Calls Try.prog 12 #[.int .i64 9, .int .u8 c] w fun e w' => e = .returned (.int .i64 (Fl.step 9 c)) ∧ w' = w := by
  go_enter Try.func12, Try.ntmps12
  go_wp2
  all_goals
    go_ret
    refine ⟨ret_i64 ?_, rfl⟩
    rw [eq9]
    try simp only [beq_iff_eq, beq_eq_false_iff_ne, ne_eq] at *
    first | omega | decide | simp

theorem step_any (st : Int) (h0 : 0 ≤ st) (h1 : st ≤ 9) (c : Int) (w : World) : Calls Try.prog 12 #[.int .i64 st, .int .u8 c] w fun e w' => e = .returned (.int .i64 (Fl.step st c)) ∧ w' = w := by
  obtain h | h | h | h | h | h | h | h | h | h : st = 0 ∨ st = 1 ∨ st = 2 ∨ st = 3 ∨ st = 4 ∨ st = 5 ∨ st = 6 ∨ st = 7 ∨ st = 8 ∨ st = 9 := by omega
  · rw [h]; exact step0 c w
  · rw [h]; exact step1 c w
  · rw [h]; exact step2 c w
  · rw [h]; exact step3 c w
  · rw [h]; exact step4 c w
  · rw [h]; exact step5 c w
  · rw [h]; exact step6 c w
  · rw [h]; exact step7 c w
  · rw [h]; exact step8 c w
  · rw [h]; exact step9 c w

theorem step_bd (st c : Int) (h0 : 0 ≤ st) (h1 : st ≤ 9) : 0 ≤ Fl.step st c ∧ Fl.step st c ≤ 10 := by
  obtain h | h | h | h | h | h | h | h | h | h : st = 0 ∨ st = 1 ∨ st = 2 ∨ st = 3 ∨ st = 4 ∨ st = 5 ∨ st = 6 ∨ st = 7 ∨ st = 8 ∨ st = 9 := by omega
  · rw [h, eq0]; omega
  · rw [h, eq1]; omega
  · rw [h, eq2]; omega
  · rw [h, eq3]; omega
  · rw [h, eq4]; omega
  · rw [h, eq5]; omega
  · rw [h, eq6]; omega
  · rw [h, eq7]; omega
  · rw [h, eq8]; omega
  · rw [h, eq9]; omega

/-! the round, in plain words -/
theorem run_at {s : ByteArray} {k : Nat} (h : k < s.size) (st : Int) (e : Nat) (f : Bool) :
    Fl.run st k e f (s.data.toList.drop k) =
      (if Fl.step st s[k].toNat = 10 then (e, f)
       else if Fl.step st s[k].toNat = 1 then Fl.run (Fl.step st s[k].toNat) (k + 1) (k + 1) false (s.data.toList.drop (k + 1))
       else if Fl.step st s[k].toNat = 4 ∨ Fl.step st s[k].toNat = 8 then Fl.run (Fl.step st s[k].toNat) (k + 1) (k + 1) true (s.data.toList.drop (k + 1))
       else Fl.run (Fl.step st s[k].toNat) (k + 1) e f (s.data.toList.drop (k + 1))) := by
  rw [drop_at s k h]
  conv => lhs; unfold Fl.run
theorem run_end {s : ByteArray} {k : Nat} (h : s.size ≤ k) (st : Int) (e : Nat) (f : Bool) : Fl.run st k e f (s.data.toList.drop k) = (e, f) := by
  rw [List.drop_of_length_le (by simpa using h)]; rfl

set_option maxHeartbeats 1000000 in
set_option maxRecDepth 100000 in
theorem model_any (s : ByteArray) (p : Nat) (w : World) (hs : s.size ≤ 1048576) (hp : p ≤ s.size) :
    Calls Try.prog 8 #[.string s, .int .i64 (p : Int)] w
      fun e w' => e = .returned (.tuple #[.int .i64 ((Fl.fe s.data.toList p).1 : Nat), .bool (Fl.fe s.data.toList p).2]) ∧ w' = w := by
  have hrun : Hid (Fl.run 0 p p false (s.data.toList.drop p) = Fl.fe s.data.toList p) := Fl.run_fe s.data.toList p
  go_enter Try.func8, Try.ntmps8
  go_wp2
  go_loop [6, 7, 8, 9] (fun t e f j => ∃ (k n : Nat) (st : Int) (g : Bool), p ≤ k ∧ k ≤ s.size ∧ j = .int .i64 k ∧ e = .int .i64 n ∧ f = .bool g ∧ t = .int .i64 st ∧ 0 ≤ st ∧ st ≤ 9 ∧
      Fl.run st k n g (s.data.toList.drop k) = Fl.fe s.data.toList p) (fun _ _ _ j => s.size - (intOf j).toNat)
  case atStart => exact ⟨p, p, 0, false, Nat.le_refl _, hp, rfl, rfl, rfl, rfl, by omega, by omega, hrun⟩
  case round =>
    obtain ⟨k, n, st, g, hk1, hk2, rfl, rfl, rfl, rfl, hst0, hst1, hr⟩ := hrel
    by_cases hlt : k < s.size
    · rw [run_at hlt] at hr
      have hb := step_bd st (s[k].toNat : Int) hst0 hst1
      have HR : Hid ((if Fl.step st s[k].toNat = 10 then (n, g)
       else if Fl.step st s[k].toNat = 1 then Fl.run (Fl.step st s[k].toNat) (k + 1) (k + 1) false (s.data.toList.drop (k + 1))
       else if Fl.step st s[k].toNat = 4 ∨ Fl.step st s[k].toNat = 8 then Fl.run (Fl.step st s[k].toNat) (k + 1) (k + 1) true (s.data.toList.drop (k + 1))
       else Fl.run (Fl.step st s[k].toNat) (k + 1) n g (s.data.toList.drop (k + 1))) = Fl.fe s.data.toList p) := hr
      clear hr hrun
      go_wp2_with (go_at_call 12; refine (step_any _ (by omega) (by omega) _ _).mono ?_; rintro e w1 ⟨rfl, hw1⟩; subst w1)
      · rw [Hid, if_pos (by simpa using ‹(Fl.step st s[k].toNat == 10) = true›)] at HR
        have HR' : Hid ((n, g) = Fl.fe s.data.toList p) := HR
        clear HR
        go_ret2
        exact ⟨ret_if HR'.symm, rfl⟩
      · have h1 : Fl.step st s[k].toNat = 1 := by simpa using ‹(Fl.step st s[k].toNat == 1) = true›
        rw [Hid, if_neg (by omega), if_pos h1] at HR
        go_round
        case rel => exact ⟨k + 1, k + 1, _, false, by omega, by omega, by go_num, by go_num, rfl, rfl, by omega, by omega, HR⟩
        case measure => simp [intOf]; omega
      · have h1 : Fl.step st s[k].toNat = 4 := by simpa using ‹(Fl.step st s[k].toNat == 4) = true›
        rw [Hid, if_neg (by omega), if_neg (by omega), if_pos (.inl h1)] at HR
        go_round
        case rel => exact ⟨k + 1, k + 1, _, true, by omega, by omega, by go_num, by go_num, rfl, rfl, by omega, by omega, HR⟩
        case measure => simp [intOf]; omega
      · have h1 : Fl.step st s[k].toNat = 8 := by simpa using ‹(Fl.step st s[k].toNat == 8) = true›
        rw [Hid, if_neg (by omega), if_neg (by omega), if_pos (.inr h1)] at HR
        go_round
        case rel => exact ⟨k + 1, k + 1, _, true, by omega, by omega, by go_num, by go_num, rfl, rfl, by omega, by omega, HR⟩
        case measure => simp [intOf]; omega
      · have h1 : ¬ Fl.step st s[k].toNat = 10 := by simpa using ‹(Fl.step st s[k].toNat == 10) = false›
        have h2 : ¬ Fl.step st s[k].toNat = 1 := by simpa using ‹(Fl.step st s[k].toNat == 1) = false›
        have h3 : ¬ Fl.step st s[k].toNat = 4 := by simpa using ‹(Fl.step st s[k].toNat == 4) = false›
        have h4 : ¬ Fl.step st s[k].toNat = 8 := by simpa using ‹(Fl.step st s[k].toNat == 8) = false›
        rw [Hid, if_neg h1, if_neg h2, if_neg (by omega)] at HR
        go_round
        case rel => exact ⟨k + 1, n, _, g, by omega, by omega, by go_num, rfl, rfl, rfl, by omega, by omega, HR⟩
        case measure => simp [intOf]; omega
    · rw [run_end (by omega)] at hr
      have HR : Hid ((n, g) = Fl.fe s.data.toList p) := hr
      clear hr hrun
      go_wp2
      go_ret2
      exact ⟨ret_if HR.symm, rfl⟩

end Go.Proofs.Qxb6601994a
