import Derived.Test.Qxb6602913aWalkC
namespace Go.Proofs.Qxb6602913a
open Go.RowKit
set_option linter.unusedVariables false

/-- A path: nil and empty, or a row of bytes. -/
def Path (w : World) (ap : Option Addr) (qb c : Nat) (xs : List Int) : Prop :=
  (ap = none ∧ c = 0 ∧ xs = []) ∨ (ap = some ⟨qb, 0, none⟩ ∧ xs.length ≤ c ∧ c ≤ maxLen ∧ qb < w.heap.size ∧ ∀ i, i < xs.length → w.cell? ⟨qb, 0 + i, none⟩ = some (.int .u8 (xs.getD i 0)))

/-- matchName's answer over the whole path. -/
def whole (R : Nat → Bool) (S : Nat → Nat → Int) (n : Nat) (xs : List Int) : Bool := Mn.match1 R (fun i a => hasB (S i) (xs.getD a 0)) n xs.length

theorem getD_wf {xs : List Int} (h : ∀ x ∈ xs, 0 ≤ x ∧ x ≤ 255) (i : Nat) : 0 ≤ xs.getD i 0 ∧ xs.getD i 0 ≤ 255 := by
  rw [List.getD_eq_getElem?_getD]
  cases hx : xs[i]? with
  | none => simp
  | some v => exact h v (List.mem_of_getElem? hx)

theorem matchName_t (t : Bool) (am an : Option Addr) (mb nb no n len cm cn : Nat) (R : Nat → Bool) (S : Nat → Nat → Int) (N : Nat → Int) (w : World) (ht : Mn.match1 R (fun i a => hasB (S i) (N a)) n len = t) (hn : n ≤ 4096) (hl : len ≤ 4096)
    (ham : n = 0 ∨ am = some ⟨mb, 0, none⟩) (han : len = 0 ∨ an = some ⟨nb, no, none⟩) (hm : Ms w mb n R S) (hN : Nm w nb no len N) (hwf : ∀ i, 0 ≤ N i ∧ N i ≤ 255) :
    Calls Try.prog 28 #[.slice am n cm, .slice an len cn] w fun e w' => e = .returned (.bool t) ∧ Dr w w' := by
  rw [← ht]
  exact matchName_any am an mb nb no n len cm cn R S N w hn hl ham han hm hN hwf

set_option maxHeartbeats 2000000 in
set_option maxRecDepth 100000 in
theorem names_none (t : Bool) (pb nb mb qb n c : Nat) (ap : Option Addr) (R : Nat → Bool) (S : Nat → Nat → Int) (xs : List Int) (w : World) (hn : n ≤ 4096) (hl : xs.length ≤ 4096)
    (hp : w.cell? ⟨pb, 3, none⟩ = some (.slice (some ⟨nb, 0, none⟩) 1 1)) (h0 : w.cell? ⟨nb, 0, none⟩ = some (.bool false)) (h1 : w.cell? ⟨nb, 1, none⟩ = some (.slice (some ⟨mb, 0, none⟩) n n))
    (hm : Ms w mb n R S) (hq : Path w ap qb c xs) (hx : ∀ x ∈ xs, 0 ≤ x ∧ x ≤ 255) (hi : idx xs = none) (ht : whole R S n xs = t) :
    Calls Try.prog 31 #[.pointer (some ⟨pb, 0, none⟩), .slice ap xs.length c] w fun e w' => e = .returned (.bool t) ∧ Dr w w' := by
  have HM : Hid (Ms w mb n R S) := hm
  have HI : Hid (idx xs = none) := hi
  have HT : Hid (whole R S n xs = t) := ht
  clear hm hi ht
  rcases hq with ⟨rfl, rfl, rfl⟩ | ⟨rfl, hcl, hcm, hqb, hcs⟩
  · have HNx : Hid (Nm w 0 0 0 (fun a => ([] : List Int).getD a 0)) := fun i hi => by omega
    clear hx HI hl
    cases t with
    | true =>
      go_enter Try.func31, Try.ntmps31
      go_wp2
      refine wp_loop_rounds 2 ?_
      rw [rounds_succ]
      go_wp2_with (first | (go_at_call 33; refine (nextName_nil _).mono ?_; rintro e w1 ⟨rfl, hw1⟩; subst w1) | (go_at_call 28; refine (matchName_t true (some ⟨mb, 0, none⟩) none mb 0 0 n 0 n 0 R S (fun a => ([] : List Int).getD a 0) w HT hn (by omega) (.inr rfl) (.inl rfl) HM HNx (getD_wf (xs := []) (by simp))).mono ?_; rintro e w1 ⟨rfl, hdr⟩; obtain ⟨kk, rfl⟩ := hdr))
      rw [rounds_succ]
      go_wp2_with fail
      go_ret
      exact ⟨rfl, kk, rfl⟩
    | false =>
      go_enter Try.func31, Try.ntmps31
      go_wp2
      refine wp_loop_rounds 2 ?_
      rw [rounds_succ]
      go_wp2_with (first | (go_at_call 33; refine (nextName_nil _).mono ?_; rintro e w1 ⟨rfl, hw1⟩; subst w1) | (go_at_call 28; refine (matchName_t false (some ⟨mb, 0, none⟩) none mb 0 0 n 0 n 0 R S (fun a => ([] : List Int).getD a 0) w HT hn (by omega) (.inr rfl) (.inl rfl) HM HNx (getD_wf (xs := []) (by simp))).mono ?_; rintro e w1 ⟨rfl, hdr⟩; obtain ⟨kk, rfl⟩ := hdr))
      go_ret
      exact ⟨rfl, kk, rfl⟩
  · have HNx : Hid (Nm w qb 0 xs.length (fun a => xs.getD a 0)) := hcs
    cases t with
    | true =>
      go_enter Try.func31, Try.ntmps31
      go_wp2
      refine wp_loop_rounds 2 ?_
      rw [rounds_succ]
      go_wp2_with (first | (go_at_call 33; refine (nextName_none qb c xs w hl hcl hcm hcs hx HI).mono ?_; rintro e w1 ⟨rfl, hw1⟩; subst w1) | (go_at_call 28; refine (matchName_t true (some ⟨mb, 0, none⟩) (some ⟨qb, 0, none⟩) mb qb 0 n xs.length n c R S (fun a => xs.getD a 0) w HT hn (by omega) (.inr rfl) (.inr rfl) HM HNx (getD_wf hx)).mono ?_; rintro e w1 ⟨rfl, hdr⟩; obtain ⟨kk, rfl⟩ := hdr))
      rw [rounds_succ]
      go_wp2_with fail
      go_ret
      exact ⟨rfl, kk, rfl⟩
    | false =>
      go_enter Try.func31, Try.ntmps31
      go_wp2
      refine wp_loop_rounds 2 ?_
      rw [rounds_succ]
      go_wp2_with (first | (go_at_call 33; refine (nextName_none qb c xs w hl hcl hcm hcs hx HI).mono ?_; rintro e w1 ⟨rfl, hw1⟩; subst w1) | (go_at_call 28; refine (matchName_t false (some ⟨mb, 0, none⟩) (some ⟨qb, 0, none⟩) mb qb 0 n xs.length n c R S (fun a => xs.getD a 0) w HT hn (by omega) (.inr rfl) (.inr rfl) HM HNx (getD_wf hx)).mono ?_; rintro e w1 ⟨rfl, hdr⟩; obtain ⟨kk, rfl⟩ := hdr))
      go_ret
      exact ⟨rfl, kk, rfl⟩

set_option maxHeartbeats 2000000 in
set_option maxRecDepth 100000 in
theorem names_some (pb nb mb qb n c k : Nat) (ap : Option Addr) (R : Nat → Bool) (S : Nat → Nat → Int) (xs : List Int) (w : World) (hn : n ≤ 4096) (hl : xs.length ≤ 4096)
    (hp : w.cell? ⟨pb, 3, none⟩ = some (.slice (some ⟨nb, 0, none⟩) 1 1)) (h0 : w.cell? ⟨nb, 0, none⟩ = some (.bool false)) (h1 : w.cell? ⟨nb, 1, none⟩ = some (.slice (some ⟨mb, 0, none⟩) n n))
    (hm : Ms w mb n R S) (hq : Path w ap qb c xs) (hx : ∀ x ∈ xs, 0 ≤ x ∧ x ≤ 255) (hi : idx xs = some k) :
    Calls Try.prog 31 #[.pointer (some ⟨pb, 0, none⟩), .slice ap xs.length c] w fun e w' => e = .returned (.bool false) ∧ Dr w w' := by
  have HM : Hid (Ms w mb n R S) := hm
  have HI : Hid (idx xs = some k) := hi
  have hk := (idx_some hi).1
  clear hm hi
  rcases hq with ⟨rfl, rfl, rfl⟩ | ⟨rfl, hcl, hcm, hqb, hcs⟩
  · simp at hk
  · have HNx : Hid (Nm w qb 0 k (fun a => xs.getD a 0)) := fun i hi => hcs i (by omega)
    obtain ⟨t, ht⟩ : ∃ t, Mn.match1 R (fun i a => hasB (S i) (xs.getD a 0)) n k = t := ⟨_, rfl⟩
    have HT : Hid (Mn.match1 R (fun i a => hasB (S i) (xs.getD a 0)) n k = t) := ht
    clear ht
    cases t with
    | true =>
      go_enter Try.func31, Try.ntmps31
      go_wp2
      refine wp_loop_rounds 2 ?_
      rw [rounds_succ]
      go_wp2_with (first | (go_at_call 33; refine (nextName_some qb c xs k w hl hcl hcm hcs hx HI).mono ?_; rintro e w1 ⟨rfl, hw1⟩; subst w1) | (go_at_call 28; refine (matchName_t true (some ⟨mb, 0, none⟩) (some ⟨qb, 0, none⟩) mb qb 0 n k n c R S (fun a => xs.getD a 0) w HT hn (by omega) (.inr rfl) (.inr rfl) HM HNx (getD_wf hx)).mono ?_; rintro e w1 ⟨rfl, hdr⟩; obtain ⟨kk, rfl⟩ := hdr))
      rw [rounds_succ]
      go_wp2_with fail
      go_ret
      exact ⟨rfl, kk, rfl⟩
    | false =>
      go_enter Try.func31, Try.ntmps31
      go_wp2
      refine wp_loop_rounds 2 ?_
      rw [rounds_succ]
      go_wp2_with (first | (go_at_call 33; refine (nextName_some qb c xs k w hl hcl hcm hcs hx HI).mono ?_; rintro e w1 ⟨rfl, hw1⟩; subst w1) | (go_at_call 28; refine (matchName_t false (some ⟨mb, 0, none⟩) (some ⟨qb, 0, none⟩) mb qb 0 n k n c R S (fun a => xs.getD a 0) w HT hn (by omega) (.inr rfl) (.inr rfl) HM HNx (getD_wf hx)).mono ?_; rintro e w1 ⟨rfl, hdr⟩; obtain ⟨kk, rfl⟩ := hdr))
      go_ret
      exact ⟨rfl, kk, rfl⟩
end Go.Proofs.Qxb6602913a
