import Derived.Test.Qxb6601994aRows
import Derived.Test.Qxb6601994aPlain
import Derived.WalkKit
import Derived.WalkSpells
namespace Go.Proofs.Qxb6601994a
open Go.RowKit

theorem firstIdx_digits (c : UInt8) : decide (0 ≤ firstIdx ⟨#[48, 49, 50, 51, 52, 53, 54, 55, 56, 57]⟩ c) = Fl.isD c := by
  have h : ∀ n : Fin 256, decide (0 ≤ firstIdx ⟨#[48, 49, 50, 51, 52, 53, 54, 55, 56, 57]⟩ (UInt8.ofNat n.val)) = Fl.isD (UInt8.ofNat n.val) := by decide +kernel
  have h2 := h ⟨c.toNat, c.toNat_lt⟩
  simpa using h2

theorem ret_bool {a b : Bool} (h : a = b) : Ending.returned (.bool a) = .returned (.bool b) := by rw [h]

/-- '48 <= c && c <= 57', a Bool that the walk does not open. -/
def isDi (c : Int) : Bool := decide (48 ≤ c) && decide (c ≤ 57)
theorem isDi_eq (c : UInt8) : isDi (c.toNat : Int) = Fl.isD c := rfl

set_option maxHeartbeats 400000 in
theorem isDigit_any (c : Int) (w : World) :
    Calls Try.prog 14 #[.int .u8 c] w fun e w' => e = .returned (.bool (isDi c)) ∧ w' = w := by
  by_cases h : 48 ≤ c
  · go_enter Try.func14, Try.ntmps14
    go_wp2
    go_ret
    exact ⟨ret_bool (by simp [isDi, h]), rfl⟩
  · have h' : decide (48 ≤ c) = false := decide_eq_false h
    have H : Hid (decide (48 ≤ c) = false) := h'
    clear h'
    go_enter Try.func14, Try.ntmps14
    go_wp2
    go_ret
    exact ⟨ret_bool (by simp only [isDi, H.out, Bool.false_and]), rfl⟩

set_option maxHeartbeats 400000 in
theorem indexLite_any (s : ByteArray) (c : Int) (w : World) :
    Calls Try.prog 16 #[.string s, .int .u8 c] w fun e w' => e = .returned (.int .i64 (firstIdx s c.toNat.toUInt8)) ∧ w' = w := by
  go_enter Try.func16, Try.ntmps16
  go_wp2
  rw [run_callFunc_extern Try.func17 (by kernel_rfl) (by kernel_rfl) (by kernel_rfl) (e := Extern.BytealgIndexByte.indexByte) (by kernel_rfl), run_indexByte_string]
  simp only [Result.andThen]
  rw [Oper.upon_value]
  go_wp2
  go_ret
  exact ⟨rfl, rfl⟩

set_option maxHeartbeats 400000 in
theorem index_any (s : ByteArray) (c : Int) (w : World) :
    Calls Try.prog 15 #[.string s, .int .u8 c] w fun e w' => e = .returned (.int .i64 (firstIdx s c.toNat.toUInt8)) ∧ w' = w := by
  go_enter Try.func15, Try.ntmps15
  go_wp2_with (go_at_call 16; refine (indexLite_any _ _ _).mono ?_; rintro e w' ⟨rfl, rfl⟩)
  go_ret
  exact ⟨rfl, rfl⟩

/-- strings.IndexByte at the ten digits. -/
def dIdx (c : Int) : Int := firstIdx ⟨#[48, 49, 50, 51, 52, 53, 54, 55, 56, 57]⟩ c.toNat.toUInt8

theorem dIdx_isD (c : UInt8) : decide (0 ≤ dIdx (c.toNat : Int)) = Fl.isD c := by
  have := firstIdx_digits c
  have e : (c.toNat : Int).toNat.toUInt8 = c := by simp
  unfold dIdx
  rw [e]
  exact this
theorem isD_of {c : UInt8} (h : 0 ≤ dIdx (c.toNat : Int)) : Fl.isD c = true := by
  rw [← dIdx_isD]; exact decide_eq_true h
theorem notD_of {c : UInt8} (h : dIdx (c.toNat : Int) < 0) : Fl.isD c = false := by
  rw [← dIdx_isD]; exact decide_eq_false (by omega)
theorem notD_us {c : UInt8} (h : (c.toNat : Int) = 95) : Fl.isD c = false := by
  unfold Fl.isD; rw [h]; decide

theorem index_dig (c : Int) (w : World) :
    Calls Try.prog 15 #[.string ⟨#[48, 49, 50, 51, 52, 53, 54, 55, 56, 57]⟩, .int .u8 c] w fun e w' => e = .returned (.int .i64 (dIdx c)) ∧ w' = w :=
  index_any _ _ _

/-! the round, in plain words -/
theorem drop_at (s : ByteArray) (k : Nat) (h : k < s.size) : s.data.toList.drop k = s[k] :: s.data.toList.drop (k + 1) := by
  have hl : k < s.data.toList.length := by simpa using h
  rw [List.drop_eq_getElem_cons hl]
  rfl

theorem r_dig {s : ByteArray} {p k : Nat} (hlt : k < s.size) (h1 : p ≤ k) (hD : Hid (Fl.dE s.data.toList p = k + Fl.dig (decide (p < k)) (s.data.toList.drop k)))
    (h : Fl.isD s[k] = true) : Fl.dE s.data.toList p = k + 1 + Fl.dig (decide (p < k + 1)) (s.data.toList.drop (k + 1)) := by
  rw [hD.out, drop_at s k hlt]
  have : decide (p < k + 1) = true := by simp; omega
  rw [this]
  simp [Fl.dig, h]
  omega

theorem r_und {s : ByteArray} {p k : Nat} (hlt : k < s.size) (h1 : p < k) (hD : Hid (Fl.dE s.data.toList p = k + Fl.dig (decide (p < k)) (s.data.toList.drop k)))
    (h : (s[k].toNat : Int) = 95) (h2 : k + 1 < s.size) (h3 : Fl.isD s[k + 1] = true) :
    Fl.dE s.data.toList p = k + 1 + Fl.dig (decide (p < k + 1)) (s.data.toList.drop (k + 1)) ∧ Fl.hdD (s.data.toList.drop (k + 1)) = true := by
  have hh : Fl.hdD (s.data.toList.drop (k + 1)) = true := by rw [drop_at s (k + 1) h2]; exact h3
  refine ⟨?_, hh⟩
  rw [hD.out, drop_at s k hlt]
  have e1 : decide (p < k + 1) = true := by simp; omega
  have e2 : decide (p < k) = true := by simp; omega
  rw [e1, e2]
  have h' : s[k].toNat = 95 := by omega
  simp [Fl.dig, notD_us h, h', hh]
  omega

theorem r_stop {s : ByteArray} {p k e : Nat} (hlt : k < s.size) (hD : Hid (Fl.dE s.data.toList p = k + Fl.dig (decide (p < k)) (s.data.toList.drop k)))
    (hcase : e = k ∨ (p < k ∧ Fl.hdD (s.data.toList.drop k) = true)) (h : Fl.isD s[k] = false)
    (h2 : k ≤ p ∨ ¬ (s[k].toNat : Int) = 95 ∨ Fl.hdD (s.data.toList.drop (k + 1)) = false) : (e : Int) = (Fl.dE s.data.toList p : Nat) := by
  have he : e = k := by
    rcases hcase with h | ⟨_, h5⟩
    · exact h
    · rw [drop_at s k hlt] at h5; simp [Fl.hdD, h] at h5
  have h0 : Fl.dig (decide (p < k)) (s.data.toList.drop k) = 0 := by
    rw [drop_at s k hlt]
    rcases h2 with h2 | h2 | h2
    · have : decide (p < k) = false := by simp; omega
      rw [this]; simp [Fl.dig, h]
    · have h2' : ¬ s[k].toNat = 95 := by omega
      simp [Fl.dig, h, h2']
    · simp [Fl.dig, h, h2]
  rw [hD.out, h0, he]; rfl

theorem hd_end {s : ByteArray} {k : Nat} (h : s.size ≤ k) : Fl.hdD (s.data.toList.drop k) = false := by
  rw [List.drop_of_length_le (by simpa using h)]; rfl

theorem r_end {s : ByteArray} {p k e : Nat} (h : s.size ≤ k) (hD : Hid (Fl.dE s.data.toList p = k + Fl.dig (decide (p < k)) (s.data.toList.drop k)))
    (hcase : e = k ∨ (p < k ∧ Fl.hdD (s.data.toList.drop k) = true)) : (e : Int) = (Fl.dE s.data.toList p : Nat) := by
  have e0 := hd_end h
  have he : e = k := by
    rcases hcase with h | ⟨_, h5⟩
    · exact h
    · rw [e0] at h5; cases h5
  rw [hD.out, List.drop_of_length_le (by simpa using h), he]; simp [Fl.dig]

theorem ret_i64 {a b : Int} (h : a = b) : Ending.returned (.int .i64 a) = .returned (.int .i64 b) := by rw [h]

set_option maxHeartbeats 1000000 in
theorem digitsEnd_any (b off : Nat) (s : ByteArray) (p : Nat) (w : World) (hs : s.size ≤ maxLen) (hp : p ≤ s.size)
    (hc : w.cell? ⟨b, off, none⟩ = some (.string s)) :
    Calls Try.prog 13 #[.pointer (some ⟨b, off, none⟩), .int .i64 (p : Int), .string ⟨#[48, 49, 50, 51, 52, 53, 54, 55, 56, 57]⟩, .bool false] w
      fun e w' => e = .returned (.int .i64 (Fl.dE s.data.toList p : Nat)) ∧ w' = w := by
  unfold maxLen at hs
  go_enter Try.func13, Try.ntmps13
  go_wp2
  go_loop [8, 9] (fun t j => ∃ k e : Nat, p ≤ k ∧ k ≤ s.size ∧ j = .int .i64 k ∧ t = .int .i64 e ∧ e ≤ k ∧
      Fl.dE s.data.toList p = k + Fl.dig (decide (p < k)) (s.data.toList.drop k) ∧ (e = k ∨ (p < k ∧ Fl.hdD (s.data.toList.drop k) = true))) (fun _ j => s.size - (intOf j).toNat)
  case atStart => exact ⟨p, p, Nat.le_refl _, hp, rfl, rfl, Nat.le_refl _, by simp [Fl.dE], .inl rfl⟩
  case round =>
    obtain ⟨k, e, hk1, hk2, rfl, rfl, hek, hd, hcase0⟩ := hrel
    have hD : Hid (Fl.dE s.data.toList p = k + Fl.dig (decide (p < k)) (s.data.toList.drop k)) := hd
    have hcase : Hid (e = k ∨ (p < k ∧ Fl.hdD (s.data.toList.drop k) = true)) := hcase0
    clear hd hcase0
    by_cases hlt : k < s.size
    · go_wp2_with (go_at_call 15; refine (index_dig _ _).mono ?_; rintro e w' ⟨rfl, rfl⟩)
      · go_ret
        exact ⟨ret_i64 (r_stop hlt hD hcase.out (notD_us ‹_›) (.inl ‹_›)), rfl⟩
      · have h3 : k + 1 < s.size := by omega
        have hu := r_und hlt (by omega) hD ‹_› h3 (isD_of ‹_›)
        go_round
        case rel => exact ⟨k + 1, e, by omega, by omega, by go_num, rfl, by omega, hu.1, .inr ⟨by omega, hu.2⟩⟩
        case measure => simp [intOf]; omega
      · have h3 : k + 1 < s.size := by omega
        go_ret
        exact ⟨ret_i64 (r_stop hlt hD hcase.out (notD_us ‹_›) (.inr (.inr (by rw [drop_at s (k + 1) h3]; exact notD_of ‹_›)))), rfl⟩
      · go_ret
        exact ⟨ret_i64 (r_stop hlt hD hcase.out (notD_us ‹_›) (.inr (.inr (hd_end (by omega))))), rfl⟩
      · go_ret
        exact ⟨ret_i64 (r_stop hlt hD hcase.out (notD_of ‹_›) (.inr (.inl ‹_›))), rfl⟩
      · have hu := r_dig hlt hk1 hD (isD_of ‹_›)
        go_round
        case rel => exact ⟨k + 1, k + 1, by omega, by omega, by go_num, by go_num, by omega, hu, .inl rfl⟩
        case measure => simp [intOf]; omega
    · have hz := r_end (by omega) hD hcase.out
      have HZ : Hid ((e : Int) = (Fl.dE s.data.toList p : Nat)) := hz
      clear hz
      go_wp2
      go_ret
      exact ⟨ret_i64 HZ.out, rfl⟩
end Go.Proofs.Qxb6601994a
