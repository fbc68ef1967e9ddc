/- The plain functions of the float scanner and their laws: lists of bytes, no Go. -/
namespace Go.Proofs.Qxb6601994a.Fl

def isD (c : UInt8) : Bool := decide (48 ≤ (c.toNat : Int)) && decide ((c.toNat : Int) ≤ 57)

def hdD : List UInt8 → Bool
  | [] => false
  | c :: _ => isD c

/-- How many bytes the run of digits (single underscores between) takes; the flag: a digit went before. -/
def dig : Bool → List UInt8 → Nat
  | _, [] => 0
  | b, c :: l => if isD c then dig true l + 1 else if b && (c.toNat == 95) && hdD l then dig true l + 1 else 0

theorem dig_le : ∀ (b : Bool) (l : List UInt8), dig b l ≤ l.length
  | _, [] => Nat.le_refl _
  | b, c :: l => by
    have h := dig_le true l
    unfold dig
    split
    · simp; omega
    · split
      · simp; omega
      · omega

def dE (l : List UInt8) (p : Nat) : Nat := p + dig false (l.drop p)

theorem dE_le (l : List UInt8) (p : Nat) (h : p ≤ l.length) : p ≤ dE l p ∧ dE l p ≤ l.length := by
  unfold dE
  have := dig_le false (l.drop p)
  simp at this
  omega

/-- The byte at k (0 past the end). -/
def at' (l : List UInt8) (k : Nat) : UInt8 := l.getD k 0

def dotB (l : List UInt8) (e : Nat) : Bool := decide (e + 1 < l.length) && ((at' l e).toNat == 46) && isD (at' l (e + 1))
def eB (l : List UInt8) (e : Nat) : Bool := decide (e < l.length) && ((at' l e).toNat == 101 || (at' l e).toNat == 69)
def sgB (l : List UInt8) (i : Nat) : Bool := decide (i < l.length) && ((at' l i).toNat == 43 || (at' l i).toNat == 45)
def dgB (l : List UInt8) (i : Nat) : Bool := decide (i < l.length) && isD (at' l i)

/-- Digits and, where one follows, a fraction. -/
def st1 (l : List UInt8) (p : Nat) : Nat × Bool := if dotB l (dE l p) then (dE l (dE l p + 1), true) else (dE l p, false)
/-- Where the digits of the exponent would start. -/
def xS (l : List UInt8) (e : Nat) : Nat := if sgB l (e + 1) then e + 2 else e + 1
/-- The exponent, where there is one. -/
def st2 (l : List UInt8) (ef : Nat × Bool) : Nat × Bool := if eB l ef.1 && dgB l (xS l ef.1) then (dE l (xS l ef.1), true) else ef
/-- floatEnd. -/
def fe (l : List UInt8) (p : Nat) : Nat × Bool := st2 l (st1 l p)

theorem st1_le (l : List UInt8) (p : Nat) (h : p ≤ l.length) : p ≤ (st1 l p).1 ∧ (st1 l p).1 ≤ l.length := by
  have h1 := dE_le l p h
  unfold st1
  split
  · rename_i hd
    have hlt : dE l p + 1 < l.length := by
      unfold dotB at hd; simp at hd; exact hd.1.1
    have h2 := dE_le l (dE l p + 1) (by omega)
    simp only
    omega
  · exact h1

theorem st2_le (l : List UInt8) (p : Nat) (ef : Nat × Bool) (h : p ≤ ef.1 ∧ ef.1 ≤ l.length) : p ≤ (st2 l ef).1 ∧ (st2 l ef).1 ≤ l.length := by
  unfold st2
  split
  · rename_i hd
    simp [dgB] at hd
    have h2 := dE_le l (xS l ef.1) (by omega)
    have h3 : ef.1 ≤ xS l ef.1 := by unfold xS; split <;> omega
    simp only
    omega
  · exact h

theorem fe_le (l : List UInt8) (p : Nat) (h : p ≤ l.length) : p ≤ (fe l p).1 ∧ (fe l p).1 ≤ l.length :=
  st2_le l p _ (st1_le l p h)

end Go.Proofs.Qxb6601994a.Fl
