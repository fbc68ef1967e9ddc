import Derived.Test.Qxb6602913aWalkF
namespace Go.Proofs.Qxb6602913a
open Go.RowKit
set_option linter.unusedVariables false

/-! ### the arguments as they come in -/
def InB (w : World) (a : Option Addr) (n cap : Nat) (R : Nat → Bool) : Prop := (a = none ∧ n = 0 ∧ cap = 0) ∨ ∃ x, a = some x ∧ ∀ i, i < n → w.cell? (x.add i) = some (.bool (R i))
def InS (w : World) (a : Option Addr) (n cap : Nat) (S : Nat → Nat → Int) : Prop := (a = none ∧ n = 0 ∧ cap = 0) ∨ ∃ x, a = some x ∧ ∀ i, i < n → ∀ j, j < 4 → w.cell? (x.add (i * 4 + j)) = some (.int .u64 (S i j))
def InP (w : World) (a : Option Addr) (cap : Nat) (xs : List Int) : Prop := (a = none ∧ xs = [] ∧ cap = 0) ∨ ∃ x, a = some x ∧ ∀ i, i < xs.length → w.cell? (x.add i) = some (.int .u8 (xs.getD i 0))

theorem InS.later {w w1 : World} {a : Option Addr} {n cap : Nat} {S : Nat → Nat → Int} (h : InS w a n cap S) (hb : Below w.heap.size w w1) : InS w1 a n cap S := by
  rcases h with h | ⟨x, h1, h2⟩
  · exact .inl h
  · exact .inr ⟨x, h1, fun i hi j hj => src_later hb (h2 i hi j hj)⟩
theorem InP.later {w w1 : World} {a : Option Addr} {cap : Nat} {xs : List Int} (h : InP w a cap xs) (hb : Below w.heap.size w w1) : InP w1 a cap xs := by
  rcases h with h | ⟨x, h1, h2⟩
  · exact .inl h
  · exact .inr ⟨x, h1, fun i hi => src_later hb (h2 i hi)⟩

/-! ### the clones -/
def CB (w : World) (a : Option Addr) (n : Nat) (R : Nat → Bool) : Prop := n = 0 ∨ ∃ b, a = some ⟨b, 0, none⟩ ∧ b < w.heap.size ∧ Bs w b n R
def CS (w : World) (a : Option Addr) (n : Nat) (S : Nat → Nat → Int) : Prop := n = 0 ∨ ∃ b, a = some ⟨b, 0, none⟩ ∧ b < w.heap.size ∧ Ss w b n S

theorem CB.later {w w1 : World} {a : Option Addr} {n : Nat} {R : Nat → Bool} (h : CB w a n R) (hb : Below w.heap.size w w1) : CB w1 a n R := by
  rcases h with h | ⟨b, h1, h2, h3⟩
  · exact .inl h
  · exact .inr ⟨b, h1, Nat.lt_of_lt_of_le h2 hb.size, fun i hi => (hb.cell (p := ⟨b, i, none⟩) h2).trans (h3 i hi)⟩
theorem CS.later {w w1 : World} {a : Option Addr} {n : Nat} {S : Nat → Nat → Int} (h : CS w a n S) (hb : Below w.heap.size w w1) : CS w1 a n S := by
  rcases h with h | ⟨b, h1, h2, h3⟩
  · exact .inl h
  · exact .inr ⟨b, h1, Nat.lt_of_lt_of_le h2 hb.size, fun i hi j hj => (hb.cell (p := ⟨b, i * 4 + j, none⟩) h2).trans (h3 i hi j hj)⟩
theorem CB.get {w : World} {a : Option Addr} {n : Nat} {R : Nat → Bool} (h : CB w a n R) (h0 : 0 < w.heap.size) : ∃ b, (n = 0 ∨ a = some ⟨b, 0, none⟩) ∧ b < w.heap.size ∧ Bs w b n R := by
  rcases h with h | ⟨b, h1, h2, h3⟩
  · exact ⟨0, .inl h, h0, fun i hi => by omega⟩
  · exact ⟨b, .inr h1, h2, h3⟩
theorem CS.get {w : World} {a : Option Addr} {n : Nat} {S : Nat → Nat → Int} (h : CS w a n S) (h0 : 0 < w.heap.size) : ∃ b, (n = 0 ∨ a = some ⟨b, 0, none⟩) ∧ b < w.heap.size ∧ Ss w b n S := by
  rcases h with h | ⟨b, h1, h2, h3⟩
  · exact ⟨0, .inl h, h0, fun i hi => by omega⟩
  · exact ⟨b, .inr h1, h2, h3⟩

theorem bools_any (a : Option Addr) (n cap : Nat) (R : Nat → Bool) (w : World) (hn : n ≤ 4096) (h : InB w a n cap R) :
    Calls Try.prog 11 #[.slice a n cap] w fun e w' => ∃ a' c', e = .returned (.slice a' n c') ∧ CB w' a' n R ∧ Below w.heap.size w w' := by
  rcases h with ⟨rfl, rfl, rfl⟩ | ⟨x, rfl, hx⟩
  · refine (bools_nil w).mono ?_
    rintro e w1 ⟨rfl, rfl⟩
    exact ⟨none, 0, rfl, .inl rfl, Below.refl _ _⟩
  · refine (bools_some x n cap ((List.range n).map fun i => .bool (R i)) w hn (by simp) ?_ ?_).mono ?_
    · intro j v hj
      simp only [List.getElem?_map, Option.map_eq_some_iff] at hj
      obtain ⟨i, hi, rfl⟩ := hj
      obtain ⟨hi1, hi2⟩ := List.getElem?_eq_some_iff.1 hi
      simp at hi1 hi2
      subst hi2
      exact hx _ hi1
    · intro v hv
      simp at hv
      obtain ⟨i, _, rfl⟩ := hv
      rfl
    · rintro e w1 ⟨rfl, hh, hb⟩
      refine ⟨_, n, rfl, .inr ⟨w.heap.size, rfl, lt_of_block hh, fun i hi => ?_⟩, hb⟩
      rw [cell_of_row _ _ _ _ _ _ hh]
      simp [hi]

theorem sets_any (a : Option Addr) (n cap : Nat) (S : Nat → Nat → Int) (w : World) (hn : n ≤ 4096) (h : InS w a n cap S) :
    Calls Try.prog 14 #[.slice a n cap] w fun e w' => ∃ a' c', e = .returned (.slice a' n c') ∧ CS w' a' n S ∧ Below w.heap.size w w' := by
  rcases h with ⟨rfl, rfl, rfl⟩ | ⟨x, rfl, hx⟩
  · refine (sets_nil w).mono ?_
    rintro e w1 ⟨rfl, rfl⟩
    exact ⟨none, 0, rfl, .inl rfl, Below.refl _ _⟩
  · refine (sets_some x n cap ((List.range (n * 4)).map fun k => .int .u64 (S (k / 4) (k % 4))) w hn (by simp) ?_ ?_).mono ?_
    · intro j v hj
      simp only [List.getElem?_map, Option.map_eq_some_iff] at hj
      obtain ⟨i, hi, rfl⟩ := hj
      obtain ⟨hi1, hi2⟩ := List.getElem?_eq_some_iff.1 hi
      simp at hi1 hi2
      subst hi2
      have := hx (j / 4) (by omega) (j % 4) (by omega)
      rw [show j / 4 * 4 + j % 4 = j by omega] at this
      exact this
    · intro v hv
      simp at hv
      obtain ⟨i, _, rfl⟩ := hv
      rfl
    · rintro e w1 ⟨rfl, hh, hb⟩
      refine ⟨_, n, rfl, .inr ⟨w.heap.size, rfl, lt_of_block hh, fun i hi j hj => ?_⟩, hb⟩
      rw [cell_of_row _ _ _ _ _ _ hh]
      have e1 : (i * 4 + j) / 4 = i := by omega
      have e2 : (i * 4 + j) % 4 = j := by omega
      have e3 : i * 4 + j < n * 4 := by omega
      simp [e1, e2, e3]

theorem bytes_any (a : Option Addr) (cap : Nat) (xs : List Int) (w : World) (hn : xs.length ≤ 4096) (h : InP w a cap xs) :
    Calls Try.prog 10 #[.slice a xs.length cap] w fun e w' => ∃ a' c' b', e = .returned (.slice a' xs.length c') ∧ Path w' a' b' c' xs ∧ Below w.heap.size w w' := by
  rcases h with ⟨rfl, rfl, rfl⟩ | ⟨x, rfl, hx⟩
  · refine (bytes_nil w).mono ?_
    rintro e w1 ⟨rfl, rfl⟩
    exact ⟨none, 0, 0, rfl, .inl ⟨rfl, rfl, rfl⟩, Below.refl _ _⟩
  · refine (bytes_some x xs.length cap (xs.map fun v => .int .u8 v) w hn (by simp) ?_ ?_).mono ?_
    · intro j v hj
      simp only [List.getElem?_map, Option.map_eq_some_iff] at hj
      obtain ⟨i, hi, rfl⟩ := hj
      obtain ⟨hi1, hi2⟩ := List.getElem?_eq_some_iff.1 hi
      have := hx j hi1
      rw [List.getD_eq_getElem?_getD, hi] at this
      exact this
    · intro v hv
      simp at hv
      obtain ⟨i, _, rfl⟩ := hv
      rfl
    · rintro e w1 ⟨rfl, hh, hb⟩
      refine ⟨_, xs.length, w.heap.size, rfl, .inr ⟨rfl, Nat.le_refl _, by unfold maxLen; omega, lt_of_block hh, fun i hi => ?_⟩, hb⟩
      rw [cell_of_row _ _ _ _ _ _ hh]
      simp [List.getD_eq_getElem?_getD, hi]

/-! ### the guards -/
set_option maxHeartbeats 1000000 in
set_option maxRecDepth 100000 in
theorem bytes26 (a0 a1 a2 : Option Addr) (n0 n1 n2 c0 c1 c2 : Nat) (w : World) (h0 : n0 ≤ 4096) (h1 : n1 ≤ 4096) (h2 : n2 ≤ 4096) :
    Calls Try.prog 26 #[.slice a0 n0 c0, .slice a1 n1 c1, .slice a2 n2 c2] w fun e w' => e = .returned (.bool true) ∧ w' = w := by
  go_enter Try.func26, Try.ntmps26
  go_wp2
  go_ret
  exact ⟨rfl, rfl⟩

set_option maxHeartbeats 1000000 in
set_option maxRecDepth 100000 in
theorem bytes26n (a0 a1 a2 : Option Addr) (n0 n1 n2 c0 c1 c2 : Nat) (w : World) :
    Calls Try.prog 26 #[.slice a0 n0 c0, .slice a1 n1 c1, .slice a2 n2 c2] w fun e w' => ∃ t, e = .returned (.bool t) ∧ w' = w := by
  go_enter Try.func26, Try.ntmps26
  go_wp2
  all_goals
    go_ret
    exact ⟨_, rfl, rfl⟩

set_option maxHeartbeats 1000000 in
set_option maxRecDepth 100000 in
theorem big (a0 a1 a2 : Option Addr) (n0 n1 n2 c0 c1 c2 : Nat) (w : World) (h : ¬ (n0 ≤ 4096 ∧ n1 ≤ 4096 ∧ n2 ≤ 4096)) :
    Calls Try.prog 8 #[.slice a0 n0 c0, .slice a1 n1 c1, .slice a2 n2 c2] w fun e w' => e = .returned (.bool true) ∧ Below w.heap.size w w' := by
  by_cases g0 : n0 ≤ 4096
  · by_cases g1 : n1 ≤ 4096
    · have g2 : ¬ n2 ≤ 4096 := fun h2 => h ⟨g0, g1, h2⟩
      clear h
      go_enter Try.func8, Try.ntmps8
      go_wp2_with (go_at_call 26; refine (bytes26n _ _ _ _ _ _ _ _ _ _).mono ?_; rintro e w1 ⟨t, rfl, hw1⟩; subst w1)
      all_goals
        go_ret
        exact ⟨rfl, Below.refl _ _⟩
    · clear h
      go_enter Try.func8, Try.ntmps8
      go_wp2_with (go_at_call 26; refine (bytes26n _ _ _ _ _ _ _ _ _ _).mono ?_; rintro e w1 ⟨t, rfl, hw1⟩; subst w1)
      all_goals
        go_ret
        exact ⟨rfl, Below.refl _ _⟩
  · clear h
    go_enter Try.func8, Try.ntmps8
    go_wp2_with (go_at_call 26; refine (bytes26n _ _ _ _ _ _ _ _ _ _).mono ?_; rintro e w1 ⟨t, rfl, hw1⟩; subst w1)
    all_goals
      go_ret
      exact ⟨rfl, Below.refl _ _⟩

set_option maxHeartbeats 1000000 in
set_option maxRecDepth 100000 in
theorem uneven (a0 a1 a2 : Option Addr) (n0 n1 n2 c0 c1 c2 : Nat) (w : World) (h0 : n0 ≤ 4096) (h1 : n1 ≤ 4096) (h2 : n2 ≤ 4096) (h : ¬ n0 = n1) :
    Calls Try.prog 8 #[.slice a0 n0 c0, .slice a1 n1 c1, .slice a2 n2 c2] w fun e w' => e = .returned (.bool true) ∧ Below w.heap.size w w' := by
  have hb : ((n0 : Int) != (n1 : Int)) = true := by rw [bne_iff_ne]; omega
  go_enter Try.func8, Try.ntmps8
  go_wp2_with (go_at_call 26; refine (bytes26 _ _ _ _ _ _ _ _ _ _ h0 h1 h2).mono ?_; rintro e w1 ⟨rfl, hw1⟩; subst w1)
  go_ret
  exact ⟨rfl, Below.refl _ _⟩

end Go.Proofs.Qxb6602913a
