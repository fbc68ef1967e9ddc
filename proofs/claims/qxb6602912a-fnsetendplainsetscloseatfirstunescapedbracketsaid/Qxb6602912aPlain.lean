/- setEnd over lists of bytes, where no member opens: no Go. -/
namespace Go.Proofs.Qxb6602912a.Se

/-- The byte at k (0 past the end). -/
def at' (l : List UInt8) (k : Nat) : UInt8 := l.getD k 0

/-- Where the set ends, counted from here: a backslash takes the byte behind it along. -/
def se : List UInt8 → Option Nat
  | [] => none
  | [c] => if c.toNat = 93 then some 1 else none
  | c :: d :: r => if c.toNat = 93 then some 1 else if c.toNat = 92 then (se r).map (· + 2) else (se (d :: r)).map (· + 1)

/-- The model: the flag says that an odd run of backslashes goes before. -/
def mo : Bool → List UInt8 → Option Nat
  | _, [] => none
  | b, c :: r => if c.toNat = 93 ∧ b = false then some 1 else (mo (decide (c.toNat = 92) && !b) r).map (· + 1)

theorem map_map1 (o : Option Nat) : (o.map (· + 1)).map (· + 1) = o.map (· + 2) := by cases o <;> simp

theorem mo_se : ∀ (n : Nat) (l : List UInt8), l.length ≤ n → mo false l = se l
  | _, [], _ => rfl
  | _, [c], _ => by
    by_cases h : c.toNat = 93
    · simp [mo, se, h]
    · simp [mo, se, h]
  | 0, c :: d :: r, h => by simp at h
  | n + 1, c :: d :: r, h => by
    simp at h
    have i1 := mo_se n r (by omega)
    have i2 := mo_se n (d :: r) (by simp; omega)
    by_cases h3 : c.toNat = 93
    · simp [mo, se, h3]
    · by_cases h2 : c.toNat = 92
      · have e : mo true (d :: r) = (mo false r).map (· + 1) := by
          conv => lhs; unfold mo
          simp
        have e2 : mo false (c :: d :: r) = (mo true (d :: r)).map (· + 1) := by
          conv => lhs; unfold mo
          simp [h2]
        rw [e2, e, map_map1, i1]
        conv => rhs; unfold se
        simp [h2]
      · have e2 : mo false (c :: d :: r) = (mo false (d :: r)).map (· + 1) := by
          conv => lhs; unfold mo
          simp [h3, h2]
        rw [e2, i2]
        conv => rhs; unfold se
        simp [h3, h2]

/-- The run of backslashes that ends just before place i + j, within what starts at i. -/
def rn (l : List UInt8) (i : Nat) : Nat → Nat
  | 0 => 0
  | j + 1 => if (at' l (i + j)).toNat = 92 then rn l i j + 1 else 0

theorem rn_le (l : List UInt8) (i : Nat) : ∀ j, rn l i j ≤ j
  | 0 => Nat.le_refl _
  | j + 1 => by
    have := rn_le l i j
    unfold rn
    split <;> omega

/-- Is the run odd? -/
def odd (l : List UInt8) (i j : Nat) : Bool := decide (rn l i j % 2 = 1)

theorem odd_succ (l : List UInt8) (i j : Nat) : odd l i (j + 1) = (decide ((at' l (i + j)).toNat = 92) && !odd l i j) := by
  unfold odd
  conv => lhs; unfold rn
  by_cases h : (at' l (i + j)).toNat = 92
  · rw [if_pos h]
    rw [Bool.eq_iff_iff]
    simp [h]
    omega
  · rw [if_neg h]
    simp [h]

/-- The absolute end. -/
def tgt (l : List UInt8) (i : Nat) : Option Nat := (se (l.drop i)).map (· + i)

/-- A member that setEnd would step over opens at k. -/
def opB (l : List UInt8) (k : Nat) : Bool :=
  decide (k + 1 < l.length) && decide ((at' l k).toNat = 91) && (decide ((at' l (k + 1)).toNat = 58) || decide ((at' l (k + 1)).toNat = 61) || decide ((at' l (k + 1)).toNat = 46))

theorem drop_at (l : List UInt8) (k : Nat) (h : k < l.length) : l.drop k = at' l k :: l.drop (k + 1) := by
  rw [List.drop_eq_getElem_cons h]
  unfold at'
  rw [List.getD_eq_getElem?_getD, List.getElem?_eq_getElem h]
  rfl

theorem tgt_end (l : List UInt8) (k : Nat) (h : l.length ≤ k) : tgt l k = none := by
  unfold tgt; rw [List.drop_of_length_le h]; rfl
theorem tgt_hit (l : List UInt8) (k : Nat) (h : k < l.length) (hc : (at' l k).toNat = 93) : tgt l k = some (k + 1) := by
  unfold tgt
  rw [drop_at l k h]
  by_cases h1 : k + 1 < l.length
  · rw [drop_at l (k + 1) h1]; simp [se, hc]; omega
  · rw [List.drop_of_length_le (by omega)]; simp [se, hc]; omega
theorem tgt_esc (l : List UInt8) (k : Nat) (h : k + 1 < l.length) (hc : (at' l k).toNat = 92) : tgt l k = tgt l (k + 2) := by
  unfold tgt
  rw [drop_at l k (by omega), drop_at l (k + 1) h]
  conv => lhs; unfold se
  rw [if_neg (by omega), if_pos hc]
  cases se (l.drop (k + 1 + 1)) with
  | none => rfl
  | some n => simp; omega
theorem tgt_esc1 (l : List UInt8) (k : Nat) (h : k + 1 = l.length) (hc : (at' l k).toNat = 92) : tgt l k = none := by
  unfold tgt
  rw [drop_at l k (by omega), List.drop_of_length_le (by omega)]
  simp [se, hc]
theorem tgt_go (l : List UInt8) (k : Nat) (h : k < l.length) (h3 : ¬ (at' l k).toNat = 93) (h2 : ¬ (at' l k).toNat = 92) : tgt l k = tgt l (k + 1) := by
  unfold tgt
  rw [drop_at l k h]
  by_cases h1 : k + 1 < l.length
  · rw [drop_at l (k + 1) h1]
    conv => lhs; unfold se
    rw [if_neg h3, if_neg h2]
    cases se (at' l (k + 1) :: l.drop (k + 1 + 1)) with
    | none => rfl
    | some n => simp; omega
  · rw [List.drop_of_length_le (by omega)]
    simp [se, h3]

theorem se_pos : ∀ (n : Nat) (l : List UInt8), l.length ≤ n → ∀ m, se l = some m → 1 ≤ m ∧ m ≤ l.length
  | _, [], _, m, h => by simp [se] at h
  | _, [c], _, m, h => by
    unfold se at h
    split at h
    · simp at h; simp; omega
    · simp at h
  | 0, c :: d :: r, hl, _, _ => by simp at hl
  | n + 1, c :: d :: r, hl, m, h => by
    simp at hl
    unfold se at h
    by_cases h3 : c.toNat = 93
    · rw [if_pos h3] at h; simp at h; simp; omega
    · rw [if_neg h3] at h
      by_cases h2 : c.toNat = 92
      · rw [if_pos h2] at h
        cases hr : se r with
        | none => rw [hr] at h; simp at h
        | some q =>
          rw [hr] at h
          have := se_pos n r (by omega) q hr
          simp at h; simp; omega
      · rw [if_neg h2] at h
        cases hr : se (d :: r) with
        | none => rw [hr] at h; simp at h
        | some q =>
          rw [hr] at h
          have := se_pos n (d :: r) (by simp; omega) q hr
          simp at this
          simp at h; simp; omega

theorem tgt_bd (l : List UInt8) (k e : Nat) (h : tgt l k = some e) : k + 1 ≤ e ∧ e ≤ l.length := by
  unfold tgt at h
  cases hs : se (l.drop k) with
  | none => rw [hs] at h; simp at h
  | some m =>
    rw [hs] at h
    have := se_pos _ (l.drop k) (Nat.le_refl _) m hs
    simp at this h
    omega

/-- Below this place no member may open. -/
def lim (l : List UInt8) (i : Nat) : Nat := match tgt l i with | some e => e - 1 | none => l.length

theorem lim_gt (l : List UInt8) (i k : Nat) (h : k < l.length) (ht : tgt l i = tgt l k) (hg : tgt l k = tgt l (k + 1)) : k < lim l i := by
  unfold lim
  rw [ht, hg]
  cases hs : tgt l (k + 1) with
  | none => exact h
  | some e =>
    have := tgt_bd l (k + 1) e hs
    simp only
    omega

/-- The answer. -/
def ansE (o : Option Nat) : Nat := o.getD 0
def ansB (o : Option Nat) : Bool := o.isSome

end Go.Proofs.Qxb6602912a.Se
