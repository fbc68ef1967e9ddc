import Derived.Test.Qxb6601994aWalkA
import Derived.Deep.CutRange
import Derived.Deep.DeepCutAuto
namespace Go.Proofs.Qxb6601994a
open Go.RowKit

theorem digitsEnd_int (b off : Nat) (s : ByteArray) (p : Int) (w : World) (hs : s.size ≤ maxLen) (h0 : 0 ≤ p) (hp : p ≤ s.size)
    (hc : w.cell? ⟨b, off, none⟩ = some (.string s)) :
    Calls Try.prog 13 #[.pointer (some ⟨b, off, none⟩), .int .i64 p, .string ⟨#[48, 49, 50, 51, 52, 53, 54, 55, 56, 57]⟩, .bool false] w
      fun e w' => e = .returned (.int .i64 (Fl.dE s.data.toList p.toNat : Nat)) ∧ w' = w := by
  obtain ⟨n, rfl⟩ := Int.eq_ofNat_of_zero_le h0
  exact digitsEnd_any b off s n w hs (by omega) hc

theorem at_eq (s : ByteArray) (k : Nat) (h : k < s.size) : Fl.at' s.data.toList k = s[k] := by
  have hl : k < s.data.toList.length := by simpa using h
  unfold Fl.at'
  rw [List.getD_eq_getElem?_getD, List.getElem?_eq_getElem hl]
  rfl

theorem len_eq (s : ByteArray) : s.data.toList.length = s.size := by simp

theorem dot1 {s : ByteArray} {e : Nat} (h : e + 1 < s.size) (h2 : (s[e].toNat : Int) = 46) : isDi (s[e + 1].toNat : Int) = Fl.dotB s.data.toList e := by
  unfold Fl.dotB
  rw [at_eq s e (by omega), at_eq s (e + 1) h, isDi_eq, len_eq]
  have : s[e].toNat = 46 := by omega
  simp [h, this]
theorem dot2 {s : ByteArray} {e : Nat} (h : e < s.size) (h2 : ¬ (s[e].toNat : Int) = 46) : false = Fl.dotB s.data.toList e := by
  unfold Fl.dotB
  rw [at_eq s e h]
  have : ¬ s[e].toNat = 46 := by omega
  simp [this]
theorem dot3 {s : ByteArray} {e : Nat} (h : s.size ≤ e + 1) : false = Fl.dotB s.data.toList e := by
  unfold Fl.dotB
  rw [len_eq]
  simp
  omega
theorem dot_lt {s : ByteArray} {e : Nat} (h : Fl.dotB s.data.toList e = true) : e + 1 < s.size := by
  unfold Fl.dotB at h
  rw [len_eq] at h
  simp at h
  exact h.1.1

theorem val_bool {a b : Bool} (h : a = b) : Value.bool a = Value.bool b := by rw [h]
theorem val_i64 {a b : Int} (h : a = b) : Value.int .i64 a = Value.int .i64 b := by rw [h]

theorem bits_e (c : UInt8) : (bits BinOp.or IntKind.u8 (c.toNat : Int) 32 == 101) = (c.toNat == 101 || c.toNat == 69) := by
  have h : ∀ n : Fin 256, (bits BinOp.or IntKind.u8 ((UInt8.ofNat n.val).toNat : Int) 32 == 101) = ((UInt8.ofNat n.val).toNat == 101 || (UInt8.ofNat n.val).toNat == 69) := by decide +kernel
  have h2 := h ⟨c.toNat, c.toNat_lt⟩
  simpa using h2

theorem eB_at {s : ByteArray} {e : Nat} (h : e < s.size) {b : Bool} (hb : (bits BinOp.or IntKind.u8 (s[e].toNat : Int) 32 == 101) = b) : Fl.eB s.data.toList e = b := by
  rw [bits_e] at hb
  unfold Fl.eB
  rw [at_eq s e h, len_eq, hb]
  simp [h]
theorem eB_past {s : ByteArray} {e : Nat} (h : ¬ e < s.size) : Fl.eB s.data.toList e = false := by
  unfold Fl.eB
  rw [len_eq]
  simp [h]
theorem xS_yes {s : ByteArray} {e : Nat} (h : e + 1 < s.size) (hb : (s[e + 1].toNat : Int) = 43 ∨ (s[e + 1].toNat : Int) = 45) : Fl.xS s.data.toList e = e + 1 + 1 := by
  unfold Fl.xS Fl.sgB
  rw [at_eq s (e + 1) h, len_eq]
  rcases hb with hb | hb
  · have : s[e + 1].toNat = 43 := by omega
    simp [h, this]
  · have : s[e + 1].toNat = 45 := by omega
    simp [h, this]
theorem xS_no {s : ByteArray} {e : Nat} (h : e + 1 < s.size) (hb : ¬ (s[e + 1].toNat : Int) = 43 ∧ ¬ (s[e + 1].toNat : Int) = 45) : Fl.xS s.data.toList e = e + 1 := by
  unfold Fl.xS Fl.sgB
  rw [at_eq s (e + 1) h, len_eq]
  have h1 : ¬ s[e + 1].toNat = 43 := by omega
  have h2 : ¬ s[e + 1].toNat = 45 := by omega
  simp [h1, h2]
theorem xS_past {s : ByteArray} {e : Nat} (h : s.size ≤ e + 1) : Fl.xS s.data.toList e = e + 1 := by
  unfold Fl.xS Fl.sgB
  rw [len_eq]
  have : ¬ e + 1 < s.size := by omega
  simp [this]
theorem dg_at {s : ByteArray} {e : Nat} (h : e < s.size) {b : Bool} (hb : isDi (s[e].toNat : Int) = b) : Fl.dgB s.data.toList e = b := by
  unfold Fl.dgB
  rw [at_eq s e h, len_eq, ← isDi_eq, hb]
  simp [h]
theorem dg_past {s : ByteArray} {e : Nat} (h : s.size ≤ e) : Fl.dgB s.data.toList e = false := by
  unfold Fl.dgB
  rw [len_eq]
  simp
  omega
theorem fe_yes {s : ByteArray} {p e x : Nat} {f : Bool} (hfe : Fl.fe s.data.toList p = Fl.st2 s.data.toList (e, f)) (h1 : Fl.eB s.data.toList e = true)
    (h2 : Fl.xS s.data.toList e = x) (h3 : Fl.dgB s.data.toList x = true) : Fl.fe s.data.toList p = (Fl.dE s.data.toList x, true) := by
  rw [hfe]; unfold Fl.st2; simp only [h1, h2, h3]; rfl
theorem fe_no {s : ByteArray} {p e x : Nat} {f : Bool} (hfe : Fl.fe s.data.toList p = Fl.st2 s.data.toList (e, f))
    (h2 : Fl.xS s.data.toList e = x) (h3 : Fl.dgB s.data.toList x = false) : Fl.fe s.data.toList p = (e, f) := by
  rw [hfe]; unfold Fl.st2; simp only [h2, h3, Bool.and_false]; rfl
theorem fe_noE {s : ByteArray} {p e : Nat} {f : Bool} (hfe : Fl.fe s.data.toList p = Fl.st2 s.data.toList (e, f)) (h1 : Fl.eB s.data.toList e = false) : Fl.fe s.data.toList p = (e, f) := by
  rw [hfe]; unfold Fl.st2; simp only [h1, Bool.false_and]; rfl
theorem ret_if {l : List UInt8} {p n : Nat} {c : Bool} (h : Fl.fe l p = (n, c)) :
    Ending.returned (.tuple #[.int .i64 (n : Int), .bool c]) = .returned (.tuple #[.int .i64 ((Fl.fe l p).1 : Nat), .bool (Fl.fe l p).2]) := by rw [h]

theorem or_of {a : Int} (h : (a == 43) = true ∨ (a == 45) = true) : a = 43 ∨ a = 45 := by simpa using h
theorem and_of {a : Int} (h : (a == 43) = false ∧ (a == 45) = false) : ¬ a = 43 ∧ ¬ a = 45 := by simpa using h

set_option maxHeartbeats 1000000 in
set_option maxRecDepth 100000 in
theorem floatEnd_any (b : Nat) (s : ByteArray) (p : Nat) (w : World) (hs : s.size ≤ 1048576) (hp : p ≤ s.size)
    (hc : w.cell? ⟨b, 0, none⟩ = some (.string s)) (hc1 : w.cell? ⟨b, 1, none⟩ = some (.int .i64 p)) :
    Calls Try.prog 11 #[.pointer (some ⟨b, 0, none⟩)] w
      fun e w' => e = .returned (.tuple #[.int .i64 ((Fl.fe s.data.toList p).1 : Nat), .bool (Fl.fe s.data.toList p).2]) ∧ w' = w := by
  have hs' : s.size ≤ maxLen := by unfold maxLen; omega
  have hE := Fl.dE_le s.data.toList p (by simpa using hp)
  have hS := Fl.st1_le s.data.toList p (by simpa using hp)
  rw [len_eq] at hE hS
  have hst : Hid (Fl.st1 s.data.toList p = (if Fl.dotB s.data.toList (Fl.dE s.data.toList p) then (Fl.dE s.data.toList (Fl.dE s.data.toList p + 1), true) else (Fl.dE s.data.toList p, false))) := rfl
  have hfe : Hid (Fl.fe s.data.toList p = Fl.st2 s.data.toList (Fl.st1 s.data.toList p)) := rfl
  generalize Fl.st1 s.data.toList p = ef at *
  obtain ⟨e2, f2⟩ := ef
  go_enter Try.func11, Try.ntmps11
  go_upto_region 3 with (go_at_call 13; refine (digitsEnd_any _ _ _ _ _ hs' hp (by simpa using hc)).mono ?_; rintro e w1 ⟨rfl, hw1⟩; subst w1)
  generalize Fl.dE s.data.toList p = e1 at *
  obtain ⟨hE1, hE2⟩ := hE
  go_cut [38] (fun s38 w1 => s38 = .bool (Fl.dotB s.data.toList e1) ∧ w1 = w)
  case first =>
    go_wp2_with (go_at_call 14; refine (isDigit_any _ _).mono ?_; rintro e w1 ⟨rfl, hw1⟩; subst w1)
    · go_meet
      case rel => exact ⟨val_bool (dot1 (by omega) ‹_›), rfl⟩
    · go_meet
      case rel => exact ⟨val_bool (dot2 ‹_› ‹_›), rfl⟩
    · go_meet
      case rel => exact ⟨val_bool (dot3 (by omega)), rfl⟩
  case rest =>
    obtain ⟨rfl, hwc⟩ := hcut
    subst wc
    go_upto_if 38 with fail
    go_cut [2, 4] (fun s2 s4 w1 => s2 = .int .i64 (e2 : Nat) ∧ s4 = .bool f2 ∧ w1 = w)
    case first =>
      have hdl : Fl.dotB s.data.toList e1 = true → e1 + 1 < s.size := dot_lt
      go_wp2_with (go_at_call 13; refine (digitsEnd_int _ _ _ _ _ hs' (by omega) (by have := hdl (by assumption); omega) (by simpa using hc)).mono ?_; rintro e w1 ⟨rfl, hw1⟩; subst w1)
      · have hst' : ((e2, f2) : Nat × Bool) = (Fl.dE s.data.toList (e1 + 1), true) := by rw [show ((e2, f2) : Nat × Bool) = _ from hst, if_pos (by assumption)]
        go_meet
        case rel => exact ⟨val_i64 (by rw [← (Prod.mk.inj hst').1]), val_bool (Prod.mk.inj hst').2.symm, rfl⟩
      · have hst' : ((e2, f2) : Nat × Bool) = (e1, false) := by rw [show ((e2, f2) : Nat × Bool) = _ from hst, if_neg (by simp [*])]
        go_meet
        case rel => exact ⟨val_i64 (by rw [← (Prod.mk.inj hst').1]), val_bool (Prod.mk.inj hst').2.symm, rfl⟩
    case rest =>
      obtain ⟨rfl, rfl, hwc⟩ := hcut
      subst wc
      obtain ⟨hS1, hS2⟩ := hS
      go_wp2_with (first | (go_at_call 14; refine (isDigit_any _ _).mono ?_; rintro e w1 ⟨rfl, hw1⟩; subst w1) | (go_at_call 13; refine (digitsEnd_int _ _ _ _ _ hs' (by omega) (by omega) (by simpa using hc)).mono ?_; rintro e w1 ⟨rfl, hw1⟩; subst w1))
      · go_ret2
        exact ⟨ret_if (fe_yes hfe (eB_at ‹_› ‹_›) (xS_yes (by omega) (.inl ‹_›)) (dg_at (by omega) ‹_›)), rfl⟩
      · go_ret2
        exact ⟨ret_if (fe_no hfe (xS_yes (by omega) (.inl ‹_›)) (dg_at (by omega) ‹_›)), rfl⟩
      · go_ret2
        exact ⟨ret_if (fe_no hfe (xS_yes (by omega) (.inl ‹_›)) (dg_past (by omega))), rfl⟩
      · go_ret2
        exact ⟨ret_if (fe_yes hfe (eB_at ‹_› ‹_›) (xS_yes (by omega) (or_of ‹_›)) (dg_at (by omega) ‹_›)), rfl⟩
      · go_ret2
        exact ⟨ret_if (fe_no hfe (xS_yes (by omega) (or_of ‹_›)) (dg_at (by omega) ‹_›)), rfl⟩
      · go_ret2
        exact ⟨ret_if (fe_no hfe (xS_yes (by omega) (or_of ‹_›)) (dg_past (by omega))), rfl⟩
      · go_ret2
        exact ⟨ret_if (fe_yes hfe (eB_at ‹_› ‹_›) (xS_no (by omega) (and_of ‹_›)) (dg_at (by omega) ‹_›)), rfl⟩
      · go_ret2
        exact ⟨ret_if (fe_no hfe (xS_no (by omega) (and_of ‹_›)) (dg_at (by omega) ‹_›)), rfl⟩
      · go_ret2
        exact ⟨ret_if (fe_no hfe (xS_past (by omega)) (dg_past (by omega))), rfl⟩
      · go_ret2
        exact ⟨ret_if (fe_noE hfe (eB_at ‹_› ‹_›)), rfl⟩
      · go_ret2
        exact ⟨ret_if (fe_noE hfe (eB_past ‹_›)), rfl⟩

set_option maxHeartbeats 400000 in
theorem zzFloatEnd_any (s : ByteArray) (p : Int) (w : World) (hs : s.size ≤ 1048576) (h0 : 0 ≤ p) (hp : p ≤ s.size) :
    Calls Try.prog 7 #[.string s, .int .i64 p] w
      fun e w' => e = .returned (.tuple #[.int .i64 ((Fl.fe s.data.toList p.toNat).1 : Nat), .bool (Fl.fe s.data.toList p.toNat).2]) ∧ Grown w w' := by
  obtain ⟨n, rfl⟩ := Int.eq_ofNat_of_zero_le h0
  rw [Int.toNat_natCast]
  go_enter Try.func7, Try.ntmps7
  go_wp2_with fail
  refine (floatEnd_any _ s n _ hs (by omega) (by simp [go_sem]) (by simp [go_sem])).mono ?_
  rintro e w1 ⟨rfl, hw1⟩
  subst w1
  go_wp2_with fail
  go_ret2
  exact ⟨rfl, (Grown.refl _).alloc _ _⟩

theorem extract_list (s : ByteArray) (i j : Nat) : (s.extract i j).data.toList = (s.data.toList.take j).drop i := by
  rw [ByteArray.data_extract, Array.toList_extract, List.extract_eq_take_drop, List.drop_take]
theorem grown_trans {a b c : World} (h : Grown a b) (g : Grown b c) : Grown a c :=
  ⟨World.keptBut_trans h.1 g.1, fun x => (g.2.1 x).trans (h.2.1 x), Nat.le_trans h.2.2 g.2.2⟩

end Go.Proofs.Qxb6601994a
