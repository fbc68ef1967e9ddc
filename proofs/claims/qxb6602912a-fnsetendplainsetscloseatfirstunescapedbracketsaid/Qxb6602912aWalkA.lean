import Derived.Test.Qxb6602912aRows
import Derived.Test.Qxb6602912aPlain
import Derived.WalkKit
import Derived.WalkSpells
import Derived.Lib.Strings
namespace Go.Proofs.Qxb6602912a
open Go.RowKit

theorem ret_bool {a b : Bool} (h : a = b) : Ending.returned (.bool a) = .returned (.bool b) := by rw [h]

/-- Does the text begin with these two bytes? -/
def pre2 (t : ByteArray) (x y : UInt8) : Bool := decide (2 ≤ t.size) && (t.data.toList.take 2 == [x, y])

set_option maxHeartbeats 400000 in
theorem hpLite (t : ByteArray) (x y : UInt8) (w : World) (ht : t.size ≤ 1048576) :
    Calls Try.prog 47 #[.string t, .string ⟨#[x, y]⟩] w fun e w' => e = .returned (.bool (pre2 t x y)) ∧ w' = w := by
  by_cases h : 2 ≤ t.size
  · have h' : (2 : Int) ≤ (t.size : Int) := by omega
    go_enter Try.func47, Try.ntmps47
    go_wp2
    go_ret
    exact ⟨ret_bool (by rw [Lib.extract_toList]; simp [pre2, h]), rfl⟩
  · have h' : ¬ (2 : Int) ≤ (t.size : Int) := by omega
    go_enter Try.func47, Try.ntmps47
    go_wp2
    go_ret
    exact ⟨ret_bool (by simp [pre2, h]), rfl⟩

set_option maxHeartbeats 400000 in
theorem hp_any (t : ByteArray) (x y : UInt8) (w : World) (ht : t.size ≤ 1048576) :
    Calls Try.prog 42 #[.string t, .string ⟨#[x, y]⟩] w fun e w' => e = .returned (.bool (pre2 t x y)) ∧ w' = w := by
  go_enter Try.func42, Try.ntmps42
  go_wp2_with (go_at_call 47; refine (hpLite _ _ _ _ ht).mono ?_; rintro e w1 ⟨rfl, hw1⟩; subst w1)
  go_ret
  exact ⟨rfl, rfl⟩

theorem len_eq (s : ByteArray) : s.data.toList.length = s.size := by simp
theorem at_eq (s : ByteArray) (k : Nat) (h : k < s.size) : Se.at' s.data.toList k = s[k] := by
  have hl : k < s.data.toList.length := by simpa using h
  unfold Se.at'
  rw [List.getD_eq_getElem?_getD, List.getElem?_eq_getElem hl]
  rfl

theorem drop_at (s : ByteArray) (k : Nat) (h : k < s.size) : s.data.toList.drop k = s[k] :: s.data.toList.drop (k + 1) := by
  have hl : k < s.data.toList.length := by simpa using h
  rw [List.drop_eq_getElem_cons hl]
  rfl

theorem pre2_no (s : ByteArray) (k : Nat) (y : UInt8) (hk : k < s.size) (h : Se.opB s.data.toList k = false) (hy : y.toNat = 58 ∨ y.toNat = 61 ∨ y.toNat = 46) :
    pre2 (s.extract k s.size) 91 y = false := by
  unfold pre2
  by_cases h2 : k + 1 < s.size
  · have e : (s.extract k s.size).data.toList.take 2 = [s[k], s[k + 1]] := by
      rw [Lib.extract_data, drop_at s k hk, drop_at s (k + 1) h2]
      have : s.size - k = (s.size - k - 2) + 1 + 1 := by omega
      rw [this, List.take_succ_cons, List.take_succ_cons]
      rfl
    rw [e]
    unfold Se.opB at h
    rw [at_eq s k hk, at_eq s (k + 1) h2, len_eq] at h
    simp only [h2, decide_true, Bool.true_and] at h
    rw [Bool.and_eq_false_iff]
    right
    rw [beq_eq_false_iff_ne]
    intro hc
    have c1 : s[k] = 91 := by simp at hc; exact hc.1
    have c2 : s[k + 1] = y := by simp at hc; exact hc.2
    rw [c1, c2] at h
    rcases hy with hy | hy | hy <;> simp [hy] at h
  · have : decide (2 ≤ (s.extract k s.size).size) = false := decide_eq_false (by rw [ByteArray.size_extract]; omega)
    rw [this]; rfl

def retE (l : List UInt8) (i : Nat) : Ending := .returned (.tuple #[.int .i64 ((Se.ansE (Se.tgt l i) : Nat) : Int), .bool (Se.ansB (Se.tgt l i))])

theorem ret_some {l : List UInt8} {i e : Nat} (h : Se.tgt l i = some e) : Ending.returned (.tuple #[.int .i64 (e : Int), .bool true]) = retE l i := by
  unfold retE; rw [h]; rfl
theorem ret_none {l : List UInt8} {i : Nat} (h : Se.tgt l i = none) : Ending.returned (.tuple #[.int .i64 0, .bool false]) = retE l i := by
  unfold retE; rw [h]; rfl

theorem at_zero (s : ByteArray) (k : Nat) (hk : k < s.size) (h0 : 0 < (s.extract k s.size).size) : Se.at' s.data.toList k = (s.extract k s.size)[0] := by
  rw [at_eq s k hk, ByteArray.getElem_extract]
  simp

set_option maxHeartbeats 1000000 in
set_option maxRecDepth 100000 in
theorem setEnd_any (s : ByteArray) (i : Nat) (w : World) (hs : s.size ≤ 1048576) (hi : i ≤ s.size) (hop : ∀ k, i ≤ k → k < Se.lim s.data.toList i → Se.opB s.data.toList k = false) :
    Calls Try.prog 35 #[.string s, .int .i64 (i : Int)] w fun e w' => e = retE s.data.toList i ∧ w' = w := by
  have HOp : Hid (∀ k, i ≤ k → k < Se.lim s.data.toList i → Se.opB s.data.toList k = false) := hop
  clear hop
  go_enter Try.func35, Try.ntmps35
  go_wp2
  go_loop [1] (fun j => ∃ k : Nat, i ≤ k ∧ k ≤ s.size ∧ j = .int .i64 (k : Int) ∧ Se.tgt s.data.toList i = Se.tgt s.data.toList k) (fun j => s.size - (intOf j).toNat)
  case atStart => exact ⟨i, Nat.le_refl _, hi, rfl, rfl⟩
  case round =>
    obtain ⟨k, hk1, hk2, rfl, ht⟩ := hrel
    have HT : Hid (Se.tgt s.data.toList i = Se.tgt s.data.toList k) := ht
    clear ht
    by_cases hlt : k < s.size
    · have h0 : 0 < (s.extract k s.size).size := by rw [ByteArray.size_extract]; omega
      have hat : Se.at' s.data.toList k = (s.extract k s.size)[0] := at_zero s k hlt h0
      have HAt : Hid (Se.at' s.data.toList k = (s.extract k s.size)[0]) := hat
      clear hat
      by_cases h93 : ((s.extract k s.size)[0].toNat : Int) = 93
      · have hx := Se.tgt_hit s.data.toList k (by rw [len_eq]; exact hlt) (by rw [HAt.out]; omega)
        have HX : Hid (Se.tgt s.data.toList k = some (k + 1)) := hx
        have e1 : (((s.extract k s.size)[0].toNat : Int) == 93) = true := beq_iff_eq.2 h93
        clear hx h93
        go_wp2_with fail
        go_ret2
        exact ⟨ret_some (HT.out.trans HX.out), rfl⟩
      · have e1 : (((s.extract k s.size)[0].toNat : Int) == 93) = false := beq_eq_false_iff_ne.2 h93
        by_cases h92 : ((s.extract k s.size)[0].toNat : Int) = 92
        · have e2 : (((s.extract k s.size)[0].toNat : Int) == 92) = true := beq_iff_eq.2 h92
          by_cases hl1 : k + 1 = s.size
          · have hx := Se.tgt_esc1 s.data.toList k (by rw [len_eq]; exact hl1) (by rw [HAt.out]; omega)
            have HX : Hid (Se.tgt s.data.toList k = none) := hx
            have e3 : (((s.size - k : Nat) : Int) == 1) = true := beq_iff_eq.2 (by omega)
            have HL1 : Hid (k + 1 = s.size) := hl1
            clear hx h93 h92 hl1
            go_wp2_with fail
            go_ret2
            exact ⟨ret_none (HT.out.trans HX.out), rfl⟩
          · have hx := Se.tgt_esc s.data.toList k (by rw [len_eq]; omega) (by rw [HAt.out]; omega)
            have HX : Hid (Se.tgt s.data.toList k = Se.tgt s.data.toList (k + 2)) := hx
            have e3 : (((s.size - k : Nat) : Int) == 1) = false := beq_eq_false_iff_ne.2 (by omega)
            clear hx h93 h92
            go_wp2_with fail
            go_round
            case rel => exact ⟨k + 2, by omega, by omega, by go_num, HT.out.trans HX.out⟩
            case measure => simp [intOf]; omega
        · have e2 : (((s.extract k s.size)[0].toNat : Int) == 92) = false := beq_eq_false_iff_ne.2 h92
          have hx := Se.tgt_go s.data.toList k (by rw [len_eq]; omega) (by rw [HAt.out]; omega) (by rw [HAt.out]; omega)
          have hlm := Se.lim_gt s.data.toList i k (by rw [len_eq]; omega) HT.out hx
          have hno := HOp.out k hk1 hlm
          have p1 := pre2_no s k 58 hlt hno (.inl rfl)
          have p2 := pre2_no s k 61 hlt hno (.inr (.inl rfl))
          have p3 := pre2_no s k 46 hlt hno (.inr (.inr rfl))
          have HX : Hid (Se.tgt s.data.toList k = Se.tgt s.data.toList (k + 1)) := hx
          clear hx h93 h92 hlm hno
          go_wp2_with (go_at_call 42; refine (hp_any _ _ _ _ (by rw [ByteArray.size_extract]; omega)).mono ?_; rintro e w1 ⟨rfl, hw1⟩; subst w1)
          go_round
          case rel => exact ⟨k + 1, by omega, by omega, by go_num, HT.out.trans HX.out⟩
          case measure => simp [intOf]; omega
    · have hx : Se.tgt s.data.toList k = none := Se.tgt_end _ _ (by rw [len_eq]; omega)
      have HX : Hid (Se.tgt s.data.toList k = none) := hx
      clear hx
      go_wp2_with fail
      go_ret2
      exact ⟨ret_none (HT.out.trans HX.out), rfl⟩
end Go.Proofs.Qxb6602912a
