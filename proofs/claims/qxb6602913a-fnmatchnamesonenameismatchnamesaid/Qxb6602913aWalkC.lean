import Derived.Test.Qxb6602913aWalkB
import Derived.Lib.BytesEntry
namespace Go.Proofs.Qxb6602913a
open Go.RowKit
set_option linter.unusedVariables false

set_option maxHeartbeats 1000000 in
set_option maxRecDepth 100000 in
theorem zzMatchName_any (ar az an : Option Addr) (rb sb nb no n len cr cs cn : Nat) (R : Nat → Bool) (S : Nat → Nat → Int) (N : Nat → Int) (w : World) (hn : n ≤ 4096) (hl : len ≤ 4096)
    (har : n = 0 ∨ ar = some ⟨rb, 0, none⟩) (has : n = 0 ∨ az = some ⟨sb, 0, none⟩) (hrb : rb < w.heap.size) (hsb : sb < w.heap.size) (hR : Bs w rb n R) (hS : Ss w sb n S)
    (han : len = 0 ∨ an = some ⟨nb, no, none⟩) (hnb : len = 0 ∨ nb < w.heap.size) (hN : Nm w nb no len N) (hwf : ∀ i, 0 ≤ N i ∧ N i ≤ 255) :
    Calls Try.prog 15 #[.slice ar n cr, .slice az n cs, .slice an len cn] w fun e w' => e = .returned (.bool (Mn.match1 R (fun i a => hasB (S i) (N a)) n len)) ∧ Below w.heap.size w w' := by
  go_enter Try.func15, Try.ntmps15
  go_wp2_with fail
  refine (byteMatches_any ar az rb sb n cr cs R S w hn har has hrb hsb hR hS).mono ?_
  rintro e w1 ⟨rfl, hm, hb, hlt⟩
  have hN1 : Nm w1 nb no len N := by
    intro i hi
    rcases hnb with h | h
    · omega
    · exact (hb.cell (p := ⟨nb, no + i, none⟩) h).trans (hN i hi)
  have HM : Hid (Ms w1 w.heap.size n R S) := hm
  have HN : Hid (Nm w1 nb no len N) := hN1
  have HB : Hid (Below w.heap.size w w1) := hb
  have HAn : Hid (len = 0 ∨ an = some ⟨nb, no, none⟩) := han
  have HW : Hid (∀ i, 0 ≤ N i ∧ N i ≤ 255) := hwf
  clear hm hN1 hb hN hR hS har has han hwf hnb
  go_wp2_with fail
  refine (matchName_any (some ⟨w.heap.size, 0, none⟩) an w.heap.size nb no n len n cn R S N w1 hn hl (.inr rfl) HAn HM HN HW).mono ?_
  rintro e w2 ⟨rfl, hdr⟩
  have HDr : Hid (Dr w1 w2) := hdr
  clear hdr
  go_wp2_with fail
  go_ret
  obtain ⟨k, hk⟩ := HDr.out
  exact ⟨rfl, by rw [hk]; exact HB.out.trans ⟨rfl, rfl, rfl, Nat.le_refl _, fun _ _ => rfl⟩⟩

/-! ### the first slash -/
def idx : List Int → Option Nat
  | [] => none
  | c :: l => if c = 47 then some 0 else (idx l).map (· + 1)

theorem idx_none {l : List Int} (h : idx l = none) : ∀ i, i < l.length → ¬ l.getD i 0 = 47 := by
  induction l with
  | nil => intro i hi; simp at hi
  | cons c l ih =>
    unfold idx at h
    split at h
    · simp at h
    · rename_i hc
      intro i hi
      cases i with
      | zero => simpa using hc
      | succ i =>
        have h' : idx l = none := by cases hx : idx l with | none => rfl | some k => rw [hx] at h; simp at h
        simpa using ih h' i (by simp at hi; omega)
theorem idx_some {l : List Int} {k : Nat} (h : idx l = some k) : k < l.length ∧ l.getD k 0 = 47 := by
  induction l generalizing k with
  | nil => simp [idx] at h
  | cons c l ih =>
    unfold idx at h
    split at h
    · rename_i hc
      simp at h; subst h
      exact ⟨by simp, by simpa using hc⟩
    · cases hx : idx l with
      | none => rw [hx] at h; simp at h
      | some q =>
        rw [hx] at h
        simp at h; subst h
        have := ih hx
        exact ⟨by simp; omega, by simpa using this.2⟩

/-- bytes.IndexByte's answer. -/
def idxI (l : List Int) : Int := match idx l with | some k => (k : Int) | none => -1

theorem idx_eq : ∀ (l : List Int), (∀ x ∈ l, 0 ≤ x ∧ x ≤ 255) → Lib.indexByte (Lib.bytesOf l) 47 = idxI l
  | [], _ => rfl
  | c :: l, h => by
    have ih := idx_eq l (fun x hx => h x (List.mem_cons_of_mem _ hx))
    have hc := h c (List.mem_cons_self ..)
    have e : Lib.bytesOf (c :: l) = c.toNat.toUInt8 :: Lib.bytesOf l := rfl
    rw [e]
    unfold Lib.indexByte
    rw [ih]
    have hb : (c.toNat.toUInt8 == 47) = decide (c = 47) := by
      obtain ⟨m, rfl⟩ := Int.eq_ofNat_of_zero_le hc.1
      have hd : ∀ m : Fin 256, (((m.val : Int).toNat.toUInt8 == 47)) = decide ((m.val : Int) = 47) := by decide +kernel
      exact hd ⟨m, by omega⟩
    rw [hb]
    unfold idxI
    conv => rhs; unfold idx
    by_cases hc47 : c = 47
    · simp [hc47]
    · simp only [hc47, decide_false, Bool.false_eq_true, if_false]
      cases hx : idx l with
      | none => simp
      | some k =>
        simp only [Option.map_some]
        have : ((k : Int) == -1) = false := by rw [beq_eq_false_iff_ne]; omega
        simp [this]

set_option maxHeartbeats 400000 in
theorem index_some (b c : Nat) (xs : List Int) (w : World) (hc : ∀ i, i < xs.length → w.cell? ⟨b, 0 + i, none⟩ = some (.int .u8 (xs.getD i 0))) (hx : ∀ x ∈ xs, 0 ≤ x ∧ x ≤ 255) :
    Calls Try.prog 34 #[.slice (some ⟨b, 0, none⟩) xs.length c, .int .u8 47] w fun e w' => e = .returned (.int .i64 (idxI xs)) ∧ w' = w := by
  have h := Lib.run_indexByteSlice (P := Try.prog) w b 0 xs.length c xs rfl hc 47
  have e47 : (47 : Int).toNat.toUInt8 = 47 := rfl
  rw [e47, idx_eq xs hx] at h
  go_enter Try.func34, Try.ntmps34
  go_wp2
  rw [run_callFunc_extern Try.func35 (by kernel_rfl) (by kernel_rfl) (by kernel_rfl) (e := Extern.BytealgIndexByte.indexByte) (by kernel_rfl), h]
  simp only [Result.andThen]
  rw [Oper.upon_value]
  go_wp2
  go_ret
  exact ⟨rfl, rfl⟩
set_option maxHeartbeats 400000 in
theorem index_nil (w : World) : Calls Try.prog 34 #[.slice none 0 0, .int .u8 47] w fun e w' => e = .returned (.int .i64 (-1)) ∧ w' = w := by
  have h := Lib.run_indexByteNil (P := Try.prog) w 0 0 47
  go_enter Try.func34, Try.ntmps34
  go_wp2
  rw [run_callFunc_extern Try.func35 (by kernel_rfl) (by kernel_rfl) (by kernel_rfl) (e := Extern.BytealgIndexByte.indexByte) (by kernel_rfl), h]
  simp only [Result.andThen]
  rw [Oper.upon_value]
  go_wp2
  go_ret
  exact ⟨rfl, rfl⟩

set_option maxHeartbeats 400000 in
theorem nextName_nil (w : World) : Calls Try.prog 33 #[.slice none 0 0, .int .i64 0] w fun e w' => e = .returned (.tuple #[.slice none 0 0, .int .i64 1]) ∧ w' = w := by
  go_enter Try.func33, Try.ntmps33
  go_wp2_with (go_at_call 34; refine (index_nil _).mono ?_; rintro e w1 ⟨rfl, hw1⟩; subst w1)
  go_ret2
  exact ⟨rfl, rfl⟩

set_option maxHeartbeats 400000 in
theorem nextName_none (b c : Nat) (xs : List Int) (w : World) (hl : xs.length ≤ 4096) (hcl : xs.length ≤ c) (hcm : c ≤ maxLen) (hc : ∀ i, i < xs.length → w.cell? ⟨b, 0 + i, none⟩ = some (.int .u8 (xs.getD i 0))) (hx : ∀ x ∈ xs, 0 ≤ x ∧ x ≤ 255)
    (hi : idx xs = none) :
    Calls Try.prog 33 #[.slice (some ⟨b, 0, none⟩) xs.length c, .int .i64 0] w fun e w' => e = .returned (.tuple #[.slice (some ⟨b, 0, none⟩) xs.length c, .int .i64 ((xs.length : Int) + 1)]) ∧ w' = w := by
  have HI : Hid (idxI xs = -1) := by show idxI xs = -1; unfold idxI; rw [hi]
  clear hi
  go_enter Try.func33, Try.ntmps33
  go_wp2_with fail
  refine (index_some b c xs w hc hx).mono ?_
  rintro e w1 ⟨rfl, hw1⟩
  subst w1
  rw [HI.out]
  clear hc hx
  go_wp2_with fail
  go_ret2
  exact ⟨rfl, rfl⟩

set_option maxHeartbeats 400000 in
theorem nextName_some (b c : Nat) (xs : List Int) (k : Nat) (w : World) (hl : xs.length ≤ 4096) (hcl : xs.length ≤ c) (hcm : c ≤ maxLen) (hc : ∀ i, i < xs.length → w.cell? ⟨b, 0 + i, none⟩ = some (.int .u8 (xs.getD i 0))) (hx : ∀ x ∈ xs, 0 ≤ x ∧ x ≤ 255)
    (hi : idx xs = some k) :
    Calls Try.prog 33 #[.slice (some ⟨b, 0, none⟩) xs.length c, .int .i64 0] w fun e w' => e = .returned (.tuple #[.slice (some ⟨b, 0, none⟩) k c, .int .i64 ((k : Int) + 1)]) ∧ w' = w := by
  have HI : Hid (idxI xs = (k : Int)) := by show idxI xs = _; unfold idxI; rw [hi]
  have hk := (idx_some hi).1
  clear hi
  go_enter Try.func33, Try.ntmps33
  go_wp2_with fail
  refine (index_some b c xs w hc hx).mono ?_
  rintro e w1 ⟨rfl, hw1⟩
  subst w1
  rw [HI.out]
  clear hc hx
  go_wp2_with fail
  go_ret2
  exact ⟨rfl, rfl⟩
end Go.Proofs.Qxb6602913a
