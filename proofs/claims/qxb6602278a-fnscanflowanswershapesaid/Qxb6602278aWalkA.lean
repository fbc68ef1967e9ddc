import Derived.Test.Qxb6602278aRows
import Derived.Test.Qxb6602278aPlain
import Derived.WalkKit
import Derived.WalkSpells
import Derived.Lib.BytesEntry
namespace Go.Proofs.Qxb6602278a
open Go.RowKit

theorem ret_i64 {a b : Int} (h : a = b) : Ending.returned (.int .i64 a) = .returned (.int .i64 b) := by rw [h]
theorem ret_bool {a b : Bool} (h : a = b) : Ending.returned (.bool a) = .returned (.bool b) := by rw [h]
theorem val_bool {a b : Bool} (h : a = b) : Value.bool a = Value.bool b := by rw [h]
theorem val_i64 {a b : Int} (h : a = b) : Value.int .i64 a = Value.int .i64 b := by rw [h]

/-- The cells of a row of bytes. -/
def Bytes (w : World) (b : Nat) (L : List Int) : Prop := ∀ i, i < L.length → w.cell? ⟨b, i, none⟩ = some (.int .u8 (Sf.B L i))

set_option maxHeartbeats 400000 in
theorem idx_any (b c : Nat) (xs : List Int) (cv : Int) (w : World) (hc : Bytes w b xs) :
    Calls Try.prog 27 #[.slice (some ⟨b, 0, none⟩) xs.length c, .int .u8 cv] w fun e w' => e = .returned (.int .i64 (Lib.indexByte (Lib.bytesOf xs) cv.toNat.toUInt8)) ∧ w' = w := by
  have h := Lib.run_indexByteSlice (P := Try.prog) w b 0 xs.length c xs rfl (fun i hi => by simpa [Sf.B] using hc i hi) cv
  go_enter Try.func27, Try.ntmps27
  go_wp2
  rw [run_callFunc_extern Try.func30 (by kernel_rfl) (by kernel_rfl) (by kernel_rfl) (e := Extern.BytealgIndexByte.indexByte) (by kernel_rfl), h]
  simp only [Result.andThen]
  rw [Oper.upon_value]
  go_wp2
  go_ret
  exact ⟨rfl, rfl⟩

/-- bytes.IndexByte at the four white bytes; at the five bytes ahead of a quote. -/
def wsI (c : Int) : Int := Lib.indexByte (Lib.bytesOf [32, 9, 13, 10]) c.toNat.toUInt8
def preI (c : Int) : Int := Lib.indexByte (Lib.bytesOf [91, 123, 44, 58, 63]) c.toNat.toUInt8

theorem wsI_eq (c : Int) (h0 : 0 ≤ c) (h1 : c ≤ 255) : decide (0 ≤ wsI c) = Sf.isWs c := by
  obtain ⟨n, rfl⟩ := Int.eq_ofNat_of_zero_le h0
  have h : ∀ n : Fin 256, decide (0 ≤ wsI (n.val : Int)) = Sf.isWs (n.val : Int) := by decide +kernel
  exact h ⟨n, by omega⟩
theorem preI_eq (c : Int) (h0 : 0 ≤ c) (h1 : c ≤ 255) : decide (0 ≤ preI c) = Sf.isPre c := by
  obtain ⟨n, rfl⟩ := Int.eq_ofNat_of_zero_le h0
  have h : ∀ n : Fin 256, decide (0 ≤ preI (n.val : Int)) = Sf.isPre (n.val : Int) := by decide +kernel
  exact h ⟨n, by omega⟩

/-! quotedEnd's round, in plain words -/
theorem drop_B (L : List Int) (k : Nat) (h : k < L.length) : L.drop k = Sf.B L k :: L.drop (k + 1) := by
  rw [List.drop_eq_getElem_cons h]
  unfold Sf.B
  rw [List.getD_eq_getElem?_getD, List.getElem?_eq_getElem h]
  rfl

theorem qpos_esc {L : List Int} {j : Nat} (h : j < L.length) (hb : (Sf.B L j == 92) = true) : Sf.qpos 34 L j = Sf.qpos 34 L (j + 2) := by
  unfold Sf.qpos
  rw [if_neg (by omega), drop_B L j h]
  by_cases h1 : j + 1 < L.length
  · rw [drop_B L (j + 1) h1]
    conv => lhs; unfold Sf.qlen
    rw [if_pos (by rw [hb]; rfl)]
    by_cases h2 : j + 2 < L.length
    · rw [if_neg (by omega), show j + 1 + 1 = j + 2 from rfl]; omega
    · rw [if_pos (by omega), List.drop_of_length_le (by omega)]; simp [Sf.qlen]; omega
  · rw [if_pos (by omega), List.drop_of_length_le (by omega)]
    simp [Sf.qlen]; omega

theorem qpos_dbl {L : List Int} {j : Nat} (h : j + 1 < L.length) (hb : (Sf.B L j == 39) = true) (hb2 : (Sf.B L (j + 1) == 39) = true) : Sf.qpos 39 L j = Sf.qpos 39 L (j + 2) := by
  unfold Sf.qpos
  rw [if_neg (by omega), drop_B L j (by omega), drop_B L (j + 1) h]
  conv => lhs; unfold Sf.qlen
  rw [if_neg (by simp), if_pos (by rw [hb, hb2]; rfl)]
  by_cases h2 : j + 2 < L.length
  · rw [if_neg (by omega), show j + 1 + 1 = j + 2 from rfl]; omega
  · rw [if_pos (by omega), List.drop_of_length_le (by omega)]; simp [Sf.qlen]; omega

theorem qpos_hit {L : List Int} {q : Int} {j : Nat} (h : j < L.length) (h1 : (q == 34 && Sf.B L j == 92) = false) (hb : (Sf.B L j == q) = true)
    (h2 : q = 39 → j + 1 < L.length → (Sf.B L (j + 1) == 39) = false) : Sf.qpos q L j = j + 1 := by
  unfold Sf.qpos
  rw [if_neg (by omega), drop_B L j h]
  by_cases hj : j + 1 < L.length
  · rw [drop_B L (j + 1) hj]
    unfold Sf.qlen
    have h3 : (Sf.B L j == q && q == 39 && Sf.B L (j + 1) == 39) = false := by
      by_cases h39 : q = 39
      · rw [h2 h39 hj]; simp
      · simp [h39]
    rw [if_neg (by rw [h1]; simp), if_neg (by rw [h3]; simp), if_pos hb]
  · rw [List.drop_of_length_le (by omega)]
    simp [Sf.qlen]

theorem qpos_go {L : List Int} {q : Int} {j : Nat} (h : j < L.length) (h1 : (q == 34 && Sf.B L j == 92) = false) (hb : (Sf.B L j == q) = false) : Sf.qpos q L j = Sf.qpos q L (j + 1) := by
  unfold Sf.qpos
  rw [if_neg (by omega), drop_B L j h]
  by_cases hj : j + 1 < L.length
  · rw [if_neg (by omega), drop_B L (j + 1) hj]
    conv => lhs; unfold Sf.qlen
    have h3 : (Sf.B L j == q && q == 39 && Sf.B L (j + 1) == 39) = false := by rw [hb]; rfl
    rw [if_neg (by rw [h1]; simp), if_neg (by rw [h3]; simp), if_neg (by rw [hb]; simp)]
    omega
  · rw [if_pos (by omega), List.drop_of_length_le (by omega)]
    simp [Sf.qlen]; omega

theorem qpos_end {L : List Int} {q : Int} {j : Nat} (h : L.length ≤ j) : Sf.qpos q L j = L.length := by
  unfold Sf.qpos; rw [if_pos h]

theorem beq_of {a b : Int} (h : a = b) : (a == b) = true := by rw [h]; exact beq_self_eq_true b

set_option maxHeartbeats 1000000 in
set_option maxRecDepth 100000 in
theorem quotedEnd34 (b cap : Nat) (L : List Int) (k : Nat) (w : World) (hL : L.length ≤ 1048576) (hk : k < L.length) (hc : Bytes w b L) (hq : Sf.B L k = 34) :
    Calls Try.prog 28 #[.slice (some ⟨b, 0, none⟩) L.length cap, .int .i64 (k : Int)] w fun e w' => e = .returned (.int .i64 (Sf.qe L k : Nat)) ∧ w' = w := by
  have hc0 := hc k hk
  have hqe : Hid (Sf.qe L k = Sf.qpos 34 L (k + 1)) := by show Sf.qpos (Sf.B L k) L (k + 1) = _; rw [hq]
  rw [hq] at hc0
  clear hq
  go_enter Try.func28, Try.ntmps28
  go_wp2
  go_loop [6] (fun i => ∃ j : Nat, k + 1 ≤ j ∧ j ≤ L.length + 1 ∧ i = .int .i64 j ∧ Sf.qe L k = Sf.qpos 34 L j) (fun i => L.length + 1 - (intOf i).toNat)
  case atStart => exact ⟨k + 1, by omega, by omega, by go_num, hqe⟩
  case round =>
    obtain ⟨j, hj1, hj2, rfl, hr⟩ := hrel
    have HR : Hid (Sf.qe L k = Sf.qpos 34 L j) := hr
    clear hr hqe
    by_cases hlt : j < L.length
    · have hcj := hc j hlt
      have HC : Hid (Bytes w b L) := hc
      clear hc
      go_wp2
      · have hx := qpos_esc hlt ‹_›
        go_round
        case rel => exact ⟨j + 2, by omega, by omega, by go_num, HR.trans hx⟩
        case measure => simp [intOf]; omega
      · have hx := qpos_hit hlt (q := 34) (by rw [‹(Sf.B L j == 92) = false›]; rfl) (beq_of ‹_›) (fun h => by cases h)
        have HX : Hid (Sf.qpos 34 L j = j + 1) := hx
        clear hx
        go_ret
        exact ⟨ret_i64 (by rw [HR.out, HX.out]; rfl), rfl⟩
      · have hx := qpos_go hlt (q := 34) (by rw [‹(Sf.B L j == 92) = false›]; rfl) ‹_›
        go_round
        case rel => exact ⟨j + 1, by omega, by omega, by go_num, HR.trans hx⟩
        case measure => simp [intOf]; omega
    · have HC : Hid (Bytes w b L) := hc
      clear hc
      go_wp2
      go_ret
      exact ⟨ret_i64 (by rw [HR.out, qpos_end (by omega)]), rfl⟩

set_option maxHeartbeats 1000000 in
set_option maxRecDepth 100000 in
theorem quotedEnd39 (b cap : Nat) (L : List Int) (k : Nat) (w : World) (hL : L.length ≤ 1048576) (hk : k < L.length) (hc : Bytes w b L) (hq : Sf.B L k = 39) :
    Calls Try.prog 28 #[.slice (some ⟨b, 0, none⟩) L.length cap, .int .i64 (k : Int)] w fun e w' => e = .returned (.int .i64 (Sf.qe L k : Nat)) ∧ w' = w := by
  have hc0 := hc k hk
  have hqe : Hid (Sf.qe L k = Sf.qpos 39 L (k + 1)) := by show Sf.qpos (Sf.B L k) L (k + 1) = _; rw [hq]
  rw [hq] at hc0
  clear hq
  go_enter Try.func28, Try.ntmps28
  go_wp2
  go_loop [6] (fun i => ∃ j : Nat, k + 1 ≤ j ∧ j ≤ L.length + 1 ∧ i = .int .i64 j ∧ Sf.qe L k = Sf.qpos 39 L j) (fun i => L.length + 1 - (intOf i).toNat)
  case atStart => exact ⟨k + 1, by omega, by omega, by go_num, hqe⟩
  case round =>
    obtain ⟨j, hj1, hj2, rfl, hr⟩ := hrel
    have HR : Hid (Sf.qe L k = Sf.qpos 39 L j) := hr
    clear hr hqe
    by_cases hlt : j < L.length
    · have hcj := hc j hlt
      by_cases hlt1 : j + 1 < L.length
      · have hcj1 := hc (j + 1) hlt1
        have HC : Hid (Bytes w b L) := hc
        clear hc
        go_wp2
        · have hx := qpos_dbl hlt1 (beq_of ‹_›) ‹_›
          go_round
          case rel => exact ⟨j + 2, by omega, by omega, by go_num, HR.trans hx⟩
          case measure => simp [intOf]; omega
        · have hx := qpos_hit hlt (q := 39) (by simp) (beq_of ‹_›) (fun _ _ => ‹_›)
          have HX : Hid (Sf.qpos 39 L j = j + 1) := hx
          clear hx
          go_ret
          exact ⟨ret_i64 (by rw [HR.out, HX.out]; rfl), rfl⟩
        · have hx := qpos_go hlt (q := 39) (by simp) ‹_›
          go_round
          case rel => exact ⟨j + 1, by omega, by omega, by go_num, HR.trans hx⟩
          case measure => simp [intOf]; omega
      · have HC : Hid (Bytes w b L) := hc
        clear hc
        go_wp2
        · have hx := qpos_hit hlt (q := 39) (by simp) (beq_of ‹_›) (fun _ h => absurd h hlt1)
          have HX : Hid (Sf.qpos 39 L j = j + 1) := hx
          clear hx
          go_ret
          exact ⟨ret_i64 (by rw [HR.out, HX.out]; rfl), rfl⟩
        · have hx := qpos_go hlt (q := 39) (by simp) ‹_›
          go_round
          case rel => exact ⟨j + 1, by omega, by omega, by go_num, HR.trans hx⟩
          case measure => simp [intOf]; omega
    · have HC : Hid (Bytes w b L) := hc
      clear hc
      go_wp2
      go_ret
      exact ⟨ret_i64 (by rw [HR.out, qpos_end (by omega)]), rfl⟩

theorem quotedEnd_int (b cap : Nat) (L : List Int) (k : Nat) (w : World) (hL : L.length ≤ 1048576) (hk : k < L.length) (hc : Bytes w b L) (hq : Sf.B L k = 34 ∨ Sf.B L k = 39) :
    Calls Try.prog 28 #[.slice (some ⟨b, 0, none⟩) L.length cap, .int .i64 (k : Int)] w fun e w' => e = .returned (.int .i64 (Sf.qe L k : Nat)) ∧ w' = w := by
  rcases hq with h | h
  · exact quotedEnd34 b cap L k w hL hk hc h
  · exact quotedEnd39 b cap L k w hL hk hc h

end Go.Proofs.Qxb6602278a
