import Derived.Test.Qxb6602913aWalkG
namespace Go.Proofs.Qxb6602913a
open Go.RowKit
set_option linter.unusedVariables false

/-- The world once the three lists of one element are laid. -/
def lay (w : World) (ar az : Option Addr) (n cr cz : Nat) : World := ((w.alloc (.cells #[.bool false] 4)).alloc (.cells #[.slice ar n cr] 23)).alloc (.cells #[.slice az n cz] 29)

theorem lay_facts (w : World) (ar az : Option Addr) (n cr cz : Nat) :
    (lay w ar az n cr cz).heap.size = w.heap.size + 3 ∧ (lay w ar az n cr cz).cell? ⟨w.heap.size, 0, none⟩ = some (.bool false) ∧ (lay w ar az n cr cz).cell? ⟨w.heap.size + 1, 0, none⟩ = some (.slice ar n cr) ∧
    (lay w ar az n cr cz).cell? ⟨w.heap.size + 1 + 1, 0, none⟩ = some (.slice az n cz) ∧ Below w.heap.size w (lay w ar az n cr cz) := by
  have h0 : (lay w ar az n cr cz).heap[w.heap.size]? = some (.cells #[.bool false] 4 (0, 0)) := by
    show ((w.heap.push _).push _ |>.push _)[w.heap.size]? = _
    rw [Array.getElem?_push_lt (by simp; omega), Array.getElem_push_lt (by simp), Array.getElem_push_eq]
  have h1 : (lay w ar az n cr cz).heap[w.heap.size + 1]? = some (.cells #[.slice ar n cr] 23 (0, 0)) := by
    show ((w.heap.push _).push _ |>.push _)[w.heap.size + 1]? = _
    simp [Array.getElem_push]
  have h2 : (lay w ar az n cr cz).heap[w.heap.size + 1 + 1]? = some (.cells #[.slice az n cz] 29 (0, 0)) := by
    show ((w.heap.push _).push _ |>.push _)[w.heap.size + 1 + 1]? = _
    simp [Array.getElem_push]
  refine ⟨by unfold lay; simp, ?_, ?_, ?_, (((Below.refl _ _).alloc (Nat.le_refl _) _).alloc (by simp) _).alloc (by simp; omega) _⟩
  · rw [cell_of_row _ _ _ _ _ _ h0]; rfl
  · rw [cell_of_row _ _ _ _ _ _ h1]; rfl
  · rw [cell_of_row _ _ _ _ _ _ h2]; rfl

theorem zzMatch_t (t : Bool) (ar az an : Option Addr) (qb n cr cs cn : Nat) (R : Nat → Bool) (S : Nat → Nat → Int) (xs : List Int) (w : World) (h0 : 0 < w.heap.size) (ht : whole R S n xs = t) (hn : n ≤ 4096) (hl : xs.length ≤ 4096)
    (har : CB w ar n R) (has : CS w az n S) (hp : Path w an qb cn xs) (hx : ∀ x ∈ xs, 0 ≤ x ∧ x ≤ 255) :
    Calls Try.prog 15 #[.slice ar n cr, .slice az n cs, .slice an xs.length cn] w fun e w' => e = .returned (.bool t) ∧ Below w.heap.size w w' := by
  obtain ⟨rb, hr1, hr2, hr3⟩ := har.get h0
  obtain ⟨sb, hs1, hs2, hs3⟩ := has.get h0
  rw [← ht]
  rcases hp with ⟨rfl, rfl, rfl⟩ | ⟨rfl, hcl, hcm, hqb, hcs⟩
  · exact zzMatchName_any ar az none rb sb 0 0 n 0 cr cs 0 R S (fun a => ([] : List Int).getD a 0) w hn (by omega) hr1 hs1 hr2 hs2 hr3 hs3 (.inl rfl) (.inl rfl) (fun i hi => by omega) (getD_wf (xs := []) (by simp))
  · exact zzMatchName_any ar az (some ⟨qb, 0, none⟩) rb sb qb 0 n xs.length cr cs cn R S (fun a => xs.getD a 0) w hn hl hr1 hs1 hr2 hs2 hr3 hs3 (.inr rfl) (.inr hqb) hcs (getD_wf hx)

theorem names_t (t : Bool) (ar az ap : Option Addr) (qb n cr cz c : Nat) (R : Nat → Bool) (S : Nat → Nat → Int) (xs : List Int) (w : World) (hn : n ≤ 4096) (hl : xs.length ≤ 4096)
    (har : CB w ar n R) (has : CS w az n S) (hp : Path w ap qb c xs) (hx : ∀ x ∈ xs, 0 ≤ x ∧ x ≤ 255) (ht : (match idx xs with | some _ => false | none => whole R S n xs) = t) :
    Calls Try.prog 23 #[.slice (some ⟨w.heap.size, 0, none⟩) 1 1, .slice (some ⟨w.heap.size + 1, 0, none⟩) 1 1, .slice (some ⟨w.heap.size + 1 + 1, 0, none⟩) 1 1, .slice ap xs.length c] (lay w ar az n cr cz)
      fun e w' => e = .returned (.bool t) ∧ Below w.heap.size w w' ∧ 0 < w'.heap.size := by
  obtain ⟨z, c0, c1, c2, hb⟩ := lay_facts w ar az n cr cz
  obtain ⟨rb, hr1, hr2, hr3⟩ := (har.later hb).get (by omega)
  obtain ⟨sb, hs1, hs2, hs3⟩ := (has.later hb).get (by omega)
  refine (zzNames_any t w.heap.size (w.heap.size + 1) (w.heap.size + 1 + 1) rb sb qb n cr cz c ar az ap R S xs _ hn hl (by omega) (by omega) (by omega) c0 c1 c2 hr1 hs1 hr2 hs2 hr3 hs3 (hp.later hb) hx ht).mono ?_
  rintro e w' ⟨rfl, hb'⟩
  have hsz := hb'.size
  exact ⟨rfl, hb.trans (hb'.mono (by omega)), by omega⟩

set_option maxHeartbeats 2000000 in
set_option maxRecDepth 100000 in
theorem law (a0 a1 a2 : Option Addr) (n c0 c1 c2 : Nat) (R : Nat → Bool) (S : Nat → Nat → Int) (xs : List Int) (w : World) (hn : n ≤ 4096) (hl : xs.length ≤ 4096)
    (i0 : InB w a0 n c0 R) (i1 : InS w a1 n c1 S) (i2 : InP w a2 c2 xs) (hx : ∀ x ∈ xs, 0 ≤ x ∧ x ≤ 255) :
    Calls Try.prog 8 #[.slice a0 n c0, .slice a1 n c1, .slice a2 xs.length c2] w fun e w' => e = .returned (.bool true) ∧ Below w.heap.size w w' := by
  have I0 : Hid (InB w a0 n c0 R) := i0
  have I1 : Hid (InS w a1 n c1 S) := i1
  have I2 : Hid (InP w a2 c2 xs) := i2
  have HX : Hid (∀ x ∈ xs, 0 ≤ x ∧ x ≤ 255) := hx
  clear i0 i1 i2 hx
  have hb : ((n : Int) != (n : Int)) = false := by simp
  go_enter Try.func8, Try.ntmps8
  go_wp2_with (go_at_call 26; refine (bytes26 _ _ _ _ _ _ _ _ _ _ hn hn hl).mono ?_; rintro e w1 ⟨rfl, hw1⟩; subst w1)
  refine (bools_any a0 n c0 R w hn I0).mono ?_
  rintro e w1 ⟨ar, cr, rfl, hcb1, hb1⟩
  have CB1 : Hid (CB w1 ar n R) := hcb1
  have B1 : Hid (Below w.heap.size w w1) := hb1
  clear hcb1 hb1
  go_wp2_with fail
  refine (sets_any a1 n c1 S w1 hn (I1.out.later B1)).mono ?_
  rintro e w2 ⟨az, cz, rfl, hcs2, hb2⟩
  have CS2 : Hid (CS w2 az n S) := hcs2
  have CB2 : Hid (CB w2 ar n R) := CB1.out.later hb2
  have B2 : Hid (Below w.heap.size w w2) := B1.out.trans (hb2.mono B1.out.size)
  clear hcs2 hb2 B1 CB1
  go_wp2_with fail
  refine (bytes_any a2 c2 xs w2 hl (I2.out.later B2)).mono ?_
  rintro e w3 ⟨ap, c, qb, rfl, hp3, hb3⟩
  have HP3 : Hid (Path w3 ap qb c xs) := hp3
  have CS3 : Hid (CS w3 az n S) := CS2.out.later hb3
  have CB3 : Hid (CB w3 ar n R) := CB2.out.later hb3
  have B3 : Hid (Below w.heap.size w w3) := B2.out.trans (hb3.mono B2.out.size)
  clear hp3 hb3 CS2 CB2 B2
  go_wp2_with fail
  cases hi : idx xs with
  | none =>
    have HI : Hid (idx xs = none) := hi
    obtain ⟨t, ht⟩ : ∃ t, whole R S n xs = t := ⟨_, rfl⟩
    have HT : Hid (whole R S n xs = t) := ht
    refine (names_t t ar az ap qb n cr cz c R S xs w3 hn hl CB3 CS3 HP3 HX (by rw [hi]; exact ht)).mono ?_
    rintro e w4 ⟨rfl, hb4, h04⟩
    have HP4 : Hid (Path w4 ap qb c xs) := HP3.out.later hb4
    have CS4 : Hid (CS w4 az n S) := CS3.out.later hb4
    have CB4 : Hid (CB w4 ar n R) := CB3.out.later hb4
    have B4 : Hid (Below w.heap.size w w4) := B3.out.trans (hb4.mono B3.out.size)
    have H04 : Hid (0 < w4.heap.size) := h04
    clear hb4 h04 HP3 CS3 CB3 B3 hi ht
    go_wp2_with fail
    go_loop [8, 9] (fun s i => ∃ k : Nat, k ≤ xs.length ∧ i = .int .i64 (k : Int) ∧ s = .bool false) (fun _ i => xs.length - (intOf i).toNat)
    case atStart => exact ⟨0, by omega, rfl, rfl⟩
    case round =>
      obtain ⟨k, hk, rfl, rfl⟩ := hrel
      by_cases hlt : k < xs.length
      · rcases HP4.out with ⟨rfl, rfl, rfl⟩ | ⟨rfl, hcl, hcm, hqb, hcs⟩
        · simp at hlt
        · have hck : w4.cell? ⟨qb, k, none⟩ = some (.int .u8 (xs.getD k 0)) := by simpa using hcs k hlt
          have hne : (xs.getD k 0 == 47) = false := beq_eq_false_iff_ne.2 (idx_none HI k hlt)
          generalize xs.getD k 0 = v at hck hne
          have HCs : Hid (∀ i, i < xs.length → w4.cell? ⟨qb, 0 + i, none⟩ = some (.int .u8 (xs.getD i 0))) := hcs
          clear hcs
          go_wp2_with fail
          go_round
          case rel => exact ⟨k + 1, by omega, by go_num, rfl⟩
          case measure => simp [intOf]; omega
      · cases t with
        | true =>
          go_wp2_with (go_at_call 15; refine (zzMatch_t true ar az ap qb n cr cz c R S xs w4 H04 HT hn hl CB4 CS4 HP4 HX).mono ?_; rintro e w5 ⟨rfl, hb5⟩; have B5 : Hid (Below w.heap.size w w5) := (B4.out.trans (hb5.mono B4.out.size)); clear hb5)
          go_ret
          exact ⟨rfl, B5⟩
        | false =>
          go_wp2_with (go_at_call 15; refine (zzMatch_t false ar az ap qb n cr cz c R S xs w4 H04 HT hn hl CB4 CS4 HP4 HX).mono ?_; rintro e w5 ⟨rfl, hb5⟩; have B5 : Hid (Below w.heap.size w w5) := (B4.out.trans (hb5.mono B4.out.size)); clear hb5)
          go_ret
          exact ⟨rfl, B5⟩
  | some q =>
    have hq := idx_some hi
    refine (names_t false ar az ap qb n cr cz c R S xs w3 hn hl CB3 CS3 HP3 HX (by rw [hi])).mono ?_
    rintro e w4 ⟨rfl, hb4, h04⟩
    have HP4 : Hid (Path w4 ap qb c xs) := HP3.out.later hb4
    have B4 : Hid (Below w.heap.size w w4) := B3.out.trans (hb4.mono B3.out.size)
    clear hb4 h04 HP3 CS3 CB3 B3 hi
    have hq1 := hq.1
    have HQ : Hid (xs.getD q 0 = 47) := hq.2
    clear hq
    go_wp2_with fail
    go_loop [8, 9] (fun s i => ∃ (k : Nat) (b : Bool), k ≤ xs.length ∧ i = .int .i64 (k : Int) ∧ s = .bool b ∧ (q < k → b = true)) (fun _ i => xs.length - (intOf i).toNat)
    case atStart => exact ⟨0, false, by omega, rfl, rfl, by omega⟩
    case round =>
      obtain ⟨k, b, hk, rfl, rfl, hqk⟩ := hrel
      have HK : Hid (q < k → b = true) := hqk
      clear hqk
      by_cases hlt : k < xs.length
      · rcases HP4.out with ⟨rfl, rfl, rfl⟩ | ⟨rfl, hcl, hcm, hqb, hcs⟩
        · simp at hlt
        · have hck : w4.cell? ⟨qb, k, none⟩ = some (.int .u8 (xs.getD k 0)) := by simpa using hcs k hlt
          have HCs : Hid (∀ i, i < xs.length → w4.cell? ⟨qb, 0 + i, none⟩ = some (.int .u8 (xs.getD i 0))) := hcs
          clear hcs
          obtain ⟨v, hv⟩ : ∃ v, xs.getD k 0 = v := ⟨_, rfl⟩
          rw [hv] at hck
          have HV : Hid (xs.getD k 0 = v) := hv
          clear hv
          cases hne : (v == 47) with
          | true =>
            go_wp2_with fail
            go_round
            case rel => exact ⟨k + 1, true, by omega, by go_num, rfl, fun _ => rfl⟩
            case measure => simp [intOf]; omega
          | false =>
            have hkq : ¬ k = q := by
              intro h
              subst h
              rw [← HV.out, HQ.out] at hne
              simp at hne
            go_wp2_with fail
            go_round
            case rel => exact ⟨k + 1, b, by omega, by go_num, rfl, fun h => HK.out (by omega)⟩
            case measure => simp [intOf]; omega
      · have hbt := HK.out (by omega)
        subst hbt
        go_wp2_with fail
        go_ret
        exact ⟨rfl, B4⟩
end Go.Proofs.Qxb6602913a
