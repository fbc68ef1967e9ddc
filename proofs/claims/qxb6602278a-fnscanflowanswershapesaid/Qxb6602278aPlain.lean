/- scanFlow over lists of numbers (bytes): no Go. -/
namespace Go.Proofs.Qxb6602278a.Sf

/-- The byte at k (0 past the end). -/
def B (L : List Int) (k : Nat) : Int := L.getD k 0

def isWs (c : Int) : Bool := c == 32 || c == 9 || c == 13 || c == 10
/-- The bytes behind which a quote begins a quoted scalar. -/
def isPre (c : Int) : Bool := c == 91 || c == 123 || c == 44 || c == 58 || c == 63
def isNl (c : Int) : Bool := c == 10 || c == 13

def hd39 : List Int → Bool
  | [] => false
  | c :: _ => c == 39

/-- How many bytes behind the opening quote q the quoted scalar takes, its closing quote too; all of them where none closes it. -/
def qlen (q : Int) : List Int → Nat
  | [] => 0
  | [c] => if q == 34 && c == 92 then 1 else 1
  | c :: d :: r => if q == 34 && c == 92 then qlen q r + 2
      else if c == q && q == 39 && d == 39 then qlen q r + 2
      else if c == q then 1
      else qlen q (d :: r) + 1

theorem qlen_le (q : Int) : ∀ (n : Nat) (l : List Int), l.length ≤ n → qlen q l ≤ l.length
  | _, [], _ => Nat.le_refl _
  | _, [c], _ => by unfold qlen; split <;> simp
  | 0, c :: d :: r, h => by simp at h
  | n + 1, c :: d :: r, h => by
    simp at h
    have h1 := qlen_le q n r (by omega)
    have h2 := qlen_le q n (d :: r) (by simp; omega)
    simp at h2
    unfold qlen
    split
    · simp; omega
    · split
      · simp; omega
      · split
        · simp
        · simp; omega

/-- Where the scan of a quoted scalar goes on from place j. -/
def qpos (q : Int) (L : List Int) (j : Nat) : Nat := if L.length ≤ j then L.length else j + qlen q (L.drop j)
/-- quotedEnd. -/
def qe (L : List Int) (k : Nat) : Nat := qpos (B L k) L (k + 1)

theorem qpos_bd (q : Int) (L : List Int) (j : Nat) (h : j ≤ L.length) : j ≤ qpos q L j ∧ qpos q L j ≤ L.length := by
  unfold qpos
  split
  · omega
  · have := qlen_le q _ (L.drop j) (Nat.le_refl _)
    simp at this
    omega

theorem qe_bd (L : List Int) (k : Nat) (h : k < L.length) : k + 1 ≤ qe L k ∧ qe L k ≤ L.length := qpos_bd _ L (k + 1) (by omega)

/-- How many bytes go ahead of the next line break. -/
def skipLen : List Int → Nat
  | [] => 0
  | c :: r => if isNl c then 0 else skipLen r + 1

theorem skipLen_le : ∀ l : List Int, skipLen l ≤ l.length
  | [] => Nat.le_refl _
  | c :: r => by
    have := skipLen_le r
    unfold skipLen
    split
    · simp
    · simp; omega

def skip (L : List Int) (k : Nat) : Nat := k + skipLen (L.drop k)

theorem skip_bd (L : List Int) (k : Nat) (h : k ≤ L.length) : k ≤ skip L k ∧ skip L k ≤ L.length := by
  unfold skip
  have := skipLen_le (L.drop k)
  simp at this
  omega

/-- The scan's state: the place, the depth, the byte before, the commas so far, the content's end. -/
structure St where
  k : Nat
  d : Int
  pv : Int
  C : List Nat
  ce : Nat

/-- The scan's answer. -/
structure Res where
  C : List Nat
  close : Nat
  ce : Nat
  ok : Bool

def isCom (L : List Int) (k : Nat) : Bool := (B L k == 35) && decide (0 < k) && isWs (B L (k - 1))
def isQ (L : List Int) (s : St) : Bool := (B L s.k == 34 || B L s.k == 39) && isPre s.pv
def isOp (c : Int) : Bool := c == 91 || c == 123
def isCl (c : Int) : Bool := c == 93 || c == 125

/-- The step of a byte that is no white space, comment, quote or bracket, or a closing one that does not end the scan. -/
def put (s : St) (c : Int) (k : Nat) (d : Int) (C : List Nat) : St := { s with k := k, d := d, pv := c, C := C, ce := k }

/-- One round that does not end the scan. -/
def next (L : List Int) (s : St) : St :=
  if isWs (B L s.k) then { s with k := s.k + 1 }
  else if isCom L s.k then { s with k := skip L s.k }
  else if isQ L s then put s (B L s.k) (qe L s.k) s.d s.C
  else if isOp (B L s.k) then put s (B L s.k) (s.k + 1) (s.d + 1) s.C
  else if isCl (B L s.k) then put s (B L s.k) (s.k + 1) (s.d - 1) s.C
  else if B L s.k == 44 && s.d == 1 then put s (B L s.k) (s.k + 1) s.d (s.C ++ [s.k])
  else put s (B L s.k) (s.k + 1) s.d s.C

/-- Does this round end the scan? -/
def ends (L : List Int) (s : St) : Bool := !isWs (B L s.k) && !isCom L s.k && !isQ L s && !isOp (B L s.k) && isCl (B L s.k) && (s.d - 1 == 0)

def run (L : List Int) : Nat → St → Res
  | 0, s => ⟨s.C, 0, s.ce, false⟩
  | f + 1, s => if L.length ≤ s.k then ⟨s.C, 0, s.ce, false⟩ else if ends L s then ⟨s.C, s.k, s.ce, true⟩ else run L f (next L s)

def scan (L : List Int) (o : Nat) : Res := run L (L.length - o) ⟨o, 0, 0, [], 0⟩

theorem com_lt (L : List Int) (k : Nat) (h : k < L.length) (hc : isCom L k = true) : k < skip L k := by
  unfold isCom at hc
  simp only [Bool.and_eq_true, beq_iff_eq] at hc
  unfold skip
  have hb : L.drop k = B L k :: L.drop (k + 1) := by
    rw [List.drop_eq_getElem_cons h]
    unfold B
    rw [List.getD_eq_getElem?_getD, List.getElem?_eq_getElem h]
    rfl
  rw [hb, hc.1.1]
  unfold skipLen
  rw [if_neg (by decide)]
  omega

/-- Each round goes on. -/
theorem next_lt (L : List Int) (s : St) (h : s.k < L.length) : s.k < (next L s).k ∧ (next L s).k ≤ L.length := by
  unfold next
  split
  · simp only; omega
  · split
    · rename_i hc
      have := com_lt L s.k h hc
      have := skip_bd L s.k (by omega)
      simp only; omega
    · split
      · have := qe_bd L s.k h
        simp only [put]; omega
      · split
        · simp only [put]; omega
        · split
          · simp only [put]; omega
          · split
            · simp only [put]; omega
            · simp only [put]; omega

/-- Fuel enough is fuel enough. -/
theorem run_end (L : List Int) (f : Nat) (s : St) (h : L.length ≤ s.k) : run L f s = ⟨s.C, 0, s.ce, false⟩ := by
  cases f with
  | zero => rfl
  | succ f => unfold run; rw [if_pos h]

theorem run_stop (L : List Int) (f : Nat) (s : St) (h : s.k < L.length) (hf : L.length - s.k ≤ f) (he : ends L s = true) : run L f s = ⟨s.C, s.k, s.ce, true⟩ := by
  cases f with
  | zero => omega
  | succ f => unfold run; rw [if_neg (by omega), if_pos he]

theorem run_next (L : List Int) (f : Nat) (s : St) (h : s.k < L.length) (hf : L.length - s.k ≤ f) (he : ends L s = false) :
    ∃ g, L.length - (next L s).k ≤ g ∧ run L f s = run L g (next L s) := by
  cases f with
  | zero => omega
  | succ f =>
    have := next_lt L s h
    refine ⟨f, by omega, ?_⟩
    conv => lhs; unfold run
    rw [if_neg (by omega), he]
    rfl

end Go.Proofs.Qxb6602278a.Sf
