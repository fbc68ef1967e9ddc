/- matchName over plain data: no Go. -/
namespace Go.Proofs.Qxb6602913a.Mn

/-- The matcher's loop: R i: matcher i is a star; h i a: matcher i takes byte a of the name; sp: the last star + 1 (0: none). -/
def run (R : Nat → Bool) (h : Nat → Nat → Bool) (n len : Nat) : Nat → Nat → Nat → Nat → Nat → Bool
  | 0, _, _, _, _ => false
  | f + 1, i, a, sp, sA =>
    if n ≤ i ∧ len ≤ a then true
    else if i < n ∧ R i = true then run R h n len f (i + 1) a (i + 1) a
    else if i < n ∧ a < len ∧ h i a = true then run R h n len f (i + 1) (a + 1) sp sA
    else if sp = 0 ∨ sA = len then false
    else run R h n len f sp (sA + 1) sp (sA + 1)

def mu (n len i sA : Nat) : Nat := (len - sA) * (n + 1) + (n - i)

def match1 (R : Nat → Bool) (h : Nat → Nat → Bool) (n len : Nat) : Bool := run R h n len (mu n len 0 0 + 1) 0 0 0 0

variable {R : Nat → Bool} {h : Nat → Nat → Bool} {n len f i a sp sA : Nat} {v : Bool}

theorem mu_star (hi : i < n) (h1 : sA ≤ a) : mu n len (i + 1) a < mu n len i sA := by
  unfold mu
  have : (len - a) * (n + 1) ≤ (len - sA) * (n + 1) := Nat.mul_le_mul_right _ (by omega)
  omega
theorem mu_hit (hi : i < n) : mu n len (i + 1) sA < mu n len i sA := by
  unfold mu; omega
theorem mu_back (hs : sA < len) : mu n len sp (sA + 1) < mu n len i sA := by
  unfold mu
  have : (len - sA) * (n + 1) = (len - (sA + 1)) * (n + 1) + (n + 1) := by
    rw [show len - sA = (len - (sA + 1)) + 1 by omega, Nat.add_mul, Nat.one_mul]
  omega

/-- Enough fuel, and the answer is v. -/
def Go (R : Nat → Bool) (h : Nat → Nat → Bool) (n len i a sp sA : Nat) (v : Bool) : Prop := ∃ f, mu n len i sA < f ∧ run R h n len f i a sp sA = v

theorem go_start : Go R h n len 0 0 0 0 (match1 R h n len) := ⟨_, Nat.lt_succ_self _, rfl⟩

theorem go_end (g : Go R h n len i a sp sA v) (h1 : n ≤ i) (h2 : len ≤ a) : v = true := by
  obtain ⟨f, hf, rfl⟩ := g
  cases f with
  | zero => omega
  | succ f => unfold run; rw [if_pos ⟨h1, h2⟩]
theorem go_star (g : Go R h n len i a sp sA v) (hi : i < n) (hr : R i = true) (hs : sA ≤ a) : Go R h n len (i + 1) a (i + 1) a v := by
  obtain ⟨f, hf, rfl⟩ := g
  cases f with
  | zero => omega
  | succ f =>
    have := mu_star (len := len) hi hs
    refine ⟨f, by omega, ?_⟩
    conv => rhs; unfold run
    rw [if_neg (by omega), if_pos ⟨hi, hr⟩]
theorem go_hit (g : Go R h n len i a sp sA v) (hi : i < n) (hr : R i = false) (ha : a < len) (hh : h i a = true) : Go R h n len (i + 1) (a + 1) sp sA v := by
  obtain ⟨f, hf, rfl⟩ := g
  cases f with
  | zero => omega
  | succ f =>
    have := mu_hit (len := len) (sA := sA) hi
    refine ⟨f, by omega, ?_⟩
    conv => rhs; unfold run
    rw [if_neg (by omega), if_neg (by rw [hr]; simp), if_pos ⟨hi, ha, hh⟩]
/-- Nothing fits here. -/
def Miss (R : Nat → Bool) (h : Nat → Nat → Bool) (n len i a : Nat) : Prop := ¬ (n ≤ i ∧ len ≤ a) ∧ ¬ (i < n ∧ R i = true) ∧ ¬ (i < n ∧ a < len ∧ h i a = true)
theorem go_no (g : Go R h n len i a sp sA v) (hm : Miss R h n len i a) (hs : sp = 0 ∨ sA = len) : v = false := by
  obtain ⟨f, hf, rfl⟩ := g
  cases f with
  | zero => omega
  | succ f =>
    unfold run
    rw [if_neg hm.1, if_neg hm.2.1, if_neg hm.2.2, if_pos hs]
theorem go_back (g : Go R h n len i a sp sA v) (hm : Miss R h n len i a) (h1 : ¬ sp = 0) (h2 : sA < len) : Go R h n len sp (sA + 1) sp (sA + 1) v := by
  obtain ⟨f, hf, rfl⟩ := g
  cases f with
  | zero => omega
  | succ f =>
    have := mu_back (n := n) (sp := sp) (i := i) h2
    refine ⟨f, by omega, ?_⟩
    conv => rhs; unfold run
    rw [if_neg hm.1, if_neg hm.2.1, if_neg hm.2.2, if_neg (by omega)]

end Go.Proofs.Qxb6602913a.Mn
