import Derived.Test.Qxb6602912aWalkA
namespace Go.Proofs.Qxb6602912a
open Go.RowKit

set_option maxHeartbeats 400000 in
theorem zzSetEnd_any (s : ByteArray) (i : Nat) (w : World) (hs : s.size ≤ 1048576) (hi : i ≤ s.size) (hop : ∀ k, i ≤ k → k < Se.lim s.data.toList i → Se.opB s.data.toList k = false) :
    Calls Try.prog 27 #[.string s, .int .i64 (i : Int)] w fun e w' => e = retE s.data.toList i ∧ w' = w := by
  go_enter Try.func27, Try.ntmps27
  go_wp2_with fail
  refine (setEnd_any s i w hs hi hop).mono ?_
  rintro e w1 ⟨rfl, hw1⟩
  subst w1
  unfold retE
  clear hop
  go_wp2_with fail
  go_ret2
  exact ⟨rfl, rfl⟩

/-! the model's round, in plain words -/
theorem mo_at (s : ByteArray) (i j : Nat) (h : i + j < s.size) (b : Bool) :
    Se.mo b (s.data.toList.drop (i + j)) = if (Se.at' s.data.toList (i + j)).toNat = 93 ∧ b = false then some 1 else (Se.mo (decide ((Se.at' s.data.toList (i + j)).toNat = 92) && !b) (s.data.toList.drop (i + j + 1))).map (· + 1) := by
  rw [Se.drop_at _ _ (by rw [len_eq]; exact h)]
  conv => lhs; unfold Se.mo

/-- What is still to be found from place i + j on is what was to be found from i on. -/
def Mo (l : List UInt8) (i j : Nat) : Prop := Se.tgt l i = (Se.mo (Se.odd l i j) (l.drop (i + j))).map (· + (i + j))

theorem Mo_start (l : List UInt8) (i : Nat) : Mo l i 0 := by
  unfold Mo Se.tgt
  have : Se.odd l i 0 = false := rfl
  rw [this, Nat.add_zero, Se.mo_se _ _ (Nat.le_refl _)]

theorem Mo_next {s : ByteArray} {i j : Nat} (h : i + j < s.size) (hm : Mo s.data.toList i j) (hc : ¬ ((Se.at' s.data.toList (i + j)).toNat = 93 ∧ Se.odd s.data.toList i j = false)) : Mo s.data.toList i (j + 1) := by
  unfold Mo at hm ⊢
  rw [hm, mo_at s i j h, if_neg hc, ← Se.odd_succ, ← Nat.add_assoc]
  cases Se.mo (Se.odd s.data.toList i (j + 1)) (s.data.toList.drop (i + j + 1)) with
  | none => rfl
  | some n => simp; omega

theorem Mo_hit {s : ByteArray} {i j : Nat} (h : i + j < s.size) (hm : Mo s.data.toList i j) (h1 : (Se.at' s.data.toList (i + j)).toNat = 93) (h2 : Se.odd s.data.toList i j = false) : Se.tgt s.data.toList i = some (i + j + 1) := by
  unfold Mo at hm
  rw [hm, mo_at s i j h, if_pos ⟨h1, h2⟩]
  simp
  omega

theorem Mo_end {s : ByteArray} {i j : Nat} (h : s.size ≤ i + j) (hm : Mo s.data.toList i j) : Se.tgt s.data.toList i = none := by
  unfold Mo at hm
  rw [hm, List.drop_of_length_le (by rw [len_eq]; exact h)]
  rfl

theorem rn_zero {l : List UInt8} {i j q : Nat} (h : q + Se.rn l i 0 = Se.rn l i j) : q = Se.rn l i j := h
theorem rn_more {s : ByteArray} {i j m q : Nat} (hlt : i + m < s.size) (h92 : (s[i + m].toNat : Int) = 92) (h : q + Se.rn s.data.toList i (m + 1) = Se.rn s.data.toList i j) : q + 1 + Se.rn s.data.toList i m = Se.rn s.data.toList i j := by
  have e : Se.rn s.data.toList i (m + 1) = Se.rn s.data.toList i m + 1 := by
    conv => lhs; unfold Se.rn
    rw [if_pos (by rw [at_eq s (i + m) hlt]; omega)]
  omega
theorem rn_stop {s : ByteArray} {i j m q : Nat} (hlt : i + m < s.size) (h92 : ¬ (s[i + m].toNat : Int) = 92) (h : q + Se.rn s.data.toList i (m + 1) = Se.rn s.data.toList i j) : q = Se.rn s.data.toList i j := by
  have e : Se.rn s.data.toList i (m + 1) = 0 := by
    conv => lhs; unfold Se.rn
    rw [if_neg (by rw [at_eq s (i + m) hlt]; omega)]
  omega
theorem odd_no {l : List UInt8} {i j q : Nat} (h : q = Se.rn l i j) (he : ((q : Int) % 2 == 0) = true) : Se.odd l i j = false := by
  unfold Se.odd
  rw [← h]
  simp at he ⊢
  omega
theorem odd_yes {l : List UInt8} {i j q : Nat} (h : q = Se.rn l i j) (he : ((q : Int) % 2 == 0) = false) (ho : Se.odd l i j = false) : False := by
  unfold Se.odd at ho
  rw [← h] at ho
  simp at he ho
  omega
theorem ret_at {l : List UInt8} {i e : Nat} {v : Int} (h : Se.tgt l i = some e) (hv : v = (e : Int)) : Ending.returned (.tuple #[.int .i64 v, .bool true]) = retE l i := by
  rw [hv]; exact ret_some h

set_option maxHeartbeats 2000000 in
set_option maxRecDepth 100000 in
theorem model_any (s : ByteArray) (i : Nat) (w : World) (hs : s.size ≤ 1048576) (hi : i ≤ s.size) :
    Calls Try.prog 25 #[.string s, .int .i64 (i : Int)] w fun e w' => e = retE s.data.toList i ∧ w' = w := by
  have HS : Hid (Mo s.data.toList i 0) := Mo_start _ _
  go_enter Try.func25, Try.ntmps25
  go_wp2
  go_loop [6] (fun k => ∃ j : Nat, i + j ≤ s.size ∧ k = .int .i64 ((i + j : Nat) : Int) ∧ Mo s.data.toList i j) (fun k => s.size - (intOf k).toNat)
  case atStart => exact ⟨0, by omega, rfl, HS⟩
  case round =>
    obtain ⟨j, hj, rfl, hm⟩ := hrel
    have HM : Hid (Mo s.data.toList i j) := hm
    clear hm HS
    by_cases hlt : i + j < s.size
    · by_cases h93 : (s[i + j].toNat : Int) = 93
      · have HA : Hid ((Se.at' s.data.toList (i + j)).toNat = 93) := by rw [at_eq s (i + j) hlt]; show _ = _; omega
        have e1 : ((s[i + j].toNat : Int) != 93) = false := by rw [bne_eq_false_iff_eq]; exact h93
        clear h93
        go_wp2_with fail
        go_loop [7, 8] (fun r jj => ∃ m q : Nat, m ≤ j ∧ q ≤ j ∧ r = .int .i64 (q : Int) ∧ jj = .int .i64 ((i : Int) + (m : Int) - 1) ∧ q + Se.rn s.data.toList i m = Se.rn s.data.toList i j) (fun _ jj => (intOf jj + 1).toNat)
        case atStart => exact ⟨j, 0, Nat.le_refl _, Nat.zero_le _, rfl, rfl, by omega⟩
        case round =>
          obtain ⟨m, q, hm, hq, rfl, rfl, hrn⟩ := hrel
          have HRn : Hid (q + Se.rn s.data.toList i m = Se.rn s.data.toList i j) := hrn
          clear hrn
          cases m with
          | zero =>
            have HQ : Hid (q = Se.rn s.data.toList i j) := rn_zero HRn.out
            go_wp2_with fail
            · go_ret2
              exact ⟨ret_at (Mo_hit hlt HM HA (odd_no HQ ‹_›)) (by omega), rfl⟩
            · have hn := Mo_next hlt HM.out (fun h => odd_yes HQ.out ‹_› h.2)
              go_round
              case rel => exact ⟨j + 1, by omega, by go_num, hn⟩
              case measure => simp [intOf]; omega
          | succ m =>
            have hlt2 : i + m < s.size := by omega
            by_cases h92 : (s[i + m].toNat : Int) = 92
            · have e2 : ((s[i + m].toNat : Int) == 92) = true := beq_iff_eq.2 h92
              have HR' : Hid (q + 1 + Se.rn s.data.toList i m = Se.rn s.data.toList i j) := rn_more hlt2 h92 HRn.out
              have hql := Se.rn_le s.data.toList i j
              clear h92
              go_wp2_with fail
              go_round
              case rel => exact ⟨m, q + 1, by omega, by have := HR'.out; omega, by go_num, by go_num, HR'⟩
              case measure => simp [intOf]; omega
            · have e2 : ((s[i + m].toNat : Int) == 92) = false := beq_eq_false_iff_ne.2 h92
              have HQ : Hid (q = Se.rn s.data.toList i j) := rn_stop hlt2 h92 HRn.out
              clear h92
              go_wp2_with fail
              · go_ret2
                exact ⟨ret_at (Mo_hit hlt HM HA (odd_no HQ ‹_›)) (by omega), rfl⟩
              · have hn := Mo_next hlt HM.out (fun h => odd_yes HQ.out ‹_› h.2)
                go_round
                case rel => exact ⟨j + 1, by omega, by go_num, hn⟩
                case measure => simp [intOf]; omega
      · have HN := Mo_next hlt HM (fun h => h93 (by have := h.1; rw [at_eq s (i + j) hlt] at this; omega))
        have HN' : Hid (Mo s.data.toList i (j + 1)) := HN
        have e1 : ((s[i + j].toNat : Int) != 93) = true := by rw [bne_iff_ne]; exact h93
        clear h93 HN
        go_wp2_with fail
        go_round
        case rel => exact ⟨j + 1, by omega, by go_num, HN'⟩
        case measure => simp [intOf]; omega
    · have hx := Mo_end (by omega) HM.out
      have HX : Hid (Se.tgt s.data.toList i = none) := hx
      clear hx
      go_wp2_with fail
      go_ret2
      exact ⟨ret_none HX.out, rfl⟩

theorem op_no {s : ByteArray} {j : Nat} (hl : j + 1 < s.size) (h : (((s[j + 1].toNat : Int) == 58) = false ∧ ((s[j + 1].toNat : Int) == 61) = false) ∧ ((s[j + 1].toNat : Int) == 46) = false) : Se.opB s.data.toList j = false := by
  unfold Se.opB
  rw [at_eq s (j + 1) hl]
  simp at h
  have h1 : ¬ s[j + 1].toNat = 58 := by omega
  have h2 : ¬ s[j + 1].toNat = 61 := by omega
  have h3 : ¬ s[j + 1].toNat = 46 := by omega
  simp [h1, h2, h3]
theorem op_no91 {s : ByteArray} {j : Nat} (hl : j < s.size) (h : ¬ (s[j].toNat : Int) = 91) : Se.opB s.data.toList j = false := by
  unfold Se.opB
  rw [at_eq s j hl]
  have h1 : ¬ s[j].toNat = 91 := by omega
  simp [h1]
theorem op_end {s : ByteArray} {j : Nat} (hl : s.size ≤ j + 1) : Se.opB s.data.toList j = false := by
  unfold Se.opB
  have : decide (j + 1 < s.data.toList.length) = false := decide_eq_false (by rw [len_eq]; omega)
  rw [this]; rfl
theorem op_step {l : List UInt8} {i j : Nat} (h : ∀ x, i ≤ x → x < j → Se.opB l x = false) (hj : Se.opB l j = false) : ∀ x, i ≤ x → x < j + 1 → Se.opB l x = false := by
  intro x h1 h2
  by_cases e : x = j
  · rw [e]; exact hj
  · exact h x h1 (by omega)

def OpPost (s : ByteArray) (i m : Nat) (w : World) (e : Ending) (w' : World) : Prop := ∃ t, e = .returned (.bool t) ∧ (t = false → ∀ k, i ≤ k → k < m → Se.opB s.data.toList k = false) ∧ w' = w
theorem op_yes (s : ByteArray) (i m : Nat) (w : World) : OpPost s i m w (.returned (.bool true)) w := ⟨true, rfl, fun h => (by cases h), rfl⟩
theorem op_not {s : ByteArray} {i m : Nat} (w : World) (h : ∀ k, i ≤ k → k < m → Se.opB s.data.toList k = false) : OpPost s i m w (.returned (.bool false)) w := ⟨false, rfl, fun _ => h, rfl⟩

set_option maxHeartbeats 2000000 in
set_option maxRecDepth 100000 in
theorem opener_any (s : ByteArray) (i m : Nat) (w : World) (hs : s.size ≤ 1048576) (hi : i ≤ s.size) (hm : m ≤ s.size) :
    Calls Try.prog 26 #[.string s, .int .i64 (i : Int), .int .i64 (m : Int)] w fun e w' => OpPost s i m w e w' := by
  go_enter Try.func26, Try.ntmps26
  go_wp2
  go_loop [7] (fun k => ∃ j : Nat, i ≤ j ∧ j ≤ s.size ∧ k = .int .i64 (j : Int) ∧ ∀ x, i ≤ x → x < j → Se.opB s.data.toList x = false) (fun k => s.size - (intOf k).toNat)
  case atStart => exact ⟨i, Nat.le_refl _, hi, rfl, fun x h1 h2 => by omega⟩
  case round =>
    obtain ⟨j, hj1, hj2, rfl, hno⟩ := hrel
    have HN : Hid (∀ x, i ≤ x → x < j → Se.opB s.data.toList x = false) := hno
    clear hno
    by_cases hlt : j < m ∧ j + 1 < s.size
    · obtain ⟨hl1, hl2⟩ := hlt
      go_wp2_with fail
      · go_ret
        exact op_yes _ _ _ _
      · go_ret
        exact op_yes _ _ _ _
      · go_ret
        exact op_yes _ _ _ _
      · have hj : Se.opB s.data.toList j = false := op_no hl2 ‹_›
        go_round
        case rel => exact ⟨j + 1, by omega, by omega, by go_num, fun x h1 h2 => op_step HN.out hj x h1 h2⟩
        case measure => simp [intOf]; omega
      · have hj : Se.opB s.data.toList j = false := op_no91 (by omega) ‹_›
        go_round
        case rel => exact ⟨j + 1, by omega, by omega, by go_num, fun x h1 h2 => op_step HN.out hj x h1 h2⟩
        case measure => simp [intOf]; omega
    · by_cases hl1 : j < m
      · have hl2 : s.size ≤ j + 1 := by omega
        clear hlt
        go_wp2_with fail
        go_ret
        refine op_not _ fun k h1 h2 => ?_
        by_cases hk : k < j
        · exact HN.out k h1 hk
        · exact op_end (by omega)
      · clear hlt
        go_wp2_with fail
        go_ret
        exact op_not _ fun k h1 h2 => HN.out k h1 (by omega)
end Go.Proofs.Qxb6602912a
