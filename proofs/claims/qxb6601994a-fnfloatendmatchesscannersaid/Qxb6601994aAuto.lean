/- The automaton and the scanner agree: lists of bytes, no Go. -/
import Derived.Test.Qxb6601994aLaw
namespace Go.Proofs.Qxb6601994a.Fl

def isI (c : Int) : Bool := decide (48 ≤ c) && decide (c ≤ 57)

/-- One step of the automaton (states 0 .. 9; 10: dead). -/
def step (st c : Int) : Int :=
  if st = 0 then (if isI c then 1 else if c = 46 then 3 else if c = 101 ∨ c = 69 then 6 else 10)
  else if st = 1 then (if isI c then 1 else if c = 95 then 2 else if c = 46 then 3 else if c = 101 ∨ c = 69 then 6 else 10)
  else if st = 2 then (if isI c then 1 else 10)
  else if st = 3 then (if isI c then 4 else 10)
  else if st = 4 then (if isI c then 4 else if c = 95 then 5 else if c = 101 ∨ c = 69 then 6 else 10)
  else if st = 5 then (if isI c then 4 else 10)
  else if st = 6 then (if isI c then 8 else if c = 43 ∨ c = 45 then 7 else 10)
  else if st = 7 then (if isI c then 8 else 10)
  else if st = 8 then (if isI c then 8 else if c = 95 then 9 else 10)
  else if st = 9 then (if isI c then 8 else 10)
  else 10

/-- The automaton's run: the place, the last accepting end, its flag. -/
def run (st : Int) (i e : Nat) (f : Bool) : List UInt8 → Nat × Bool
  | [] => (e, f)
  | c :: l =>
    if step st c.toNat = 10 then (e, f)
    else if step st c.toNat = 1 then run (step st c.toNat) (i + 1) (i + 1) false l
    else if step st c.toNat = 4 ∨ step st c.toNat = 8 then run (step st c.toNat) (i + 1) (i + 1) true l
    else run (step st c.toNat) (i + 1) e f l

theorem isI_eq (c : UInt8) : isI (c.toNat : Int) = isD c := rfl

theorem run_dead {st : Int} {i e : Nat} {f : Bool} {c : UInt8} {l : List UInt8} (h : step st c.toNat = 10) : run st i e f (c :: l) = (e, f) := by
  unfold run; rw [if_pos h]
theorem run_1 {st : Int} {i e : Nat} {f : Bool} {c : UInt8} {l : List UInt8} (h : step st c.toNat = 1) : run st i e f (c :: l) = run 1 (i + 1) (i + 1) false l := by
  conv => lhs; unfold run
  rw [h]; rfl
theorem run_4 {st : Int} {i e : Nat} {f : Bool} {c : UInt8} {l : List UInt8} (h : step st c.toNat = 4) : run st i e f (c :: l) = run 4 (i + 1) (i + 1) true l := by
  conv => lhs; unfold run
  rw [h]; rfl
theorem run_8 {st : Int} {i e : Nat} {f : Bool} {c : UInt8} {l : List UInt8} (h : step st c.toNat = 8) : run st i e f (c :: l) = run 8 (i + 1) (i + 1) true l := by
  conv => lhs; unfold run
  rw [h]; rfl
theorem run_o {st s : Int} {i e : Nat} {f : Bool} {c : UInt8} {l : List UInt8} (h : step st c.toNat = s) (h1 : s ≠ 10) (h2 : s ≠ 1) (h3 : s ≠ 4) (h4 : s ≠ 8) :
    run st i e f (c :: l) = run s (i + 1) e f l := by
  conv => lhs; unfold run
  rw [h, if_neg h1, if_neg h2, if_neg (by omega)]

theorem notD95 : isI 95 = false := by decide
theorem isI_ne {c : Int} (h : isI c = true) : c ≠ 95 ∧ c ≠ 46 ∧ c ≠ 101 ∧ c ≠ 69 ∧ c ≠ 43 ∧ c ≠ 45 := by
  unfold isI at h; simp at h; omega

/-- A run of digits: s the state behind a digit, u the one behind an underscore. -/
theorem run_digs (s u : Int) (g : Bool) (h1 : ∀ c : UInt8, isD c = true → step s c.toNat = s) (h2 : step s 95 = u) (h3 : ∀ c : UInt8, isD c = true → step u c.toNat = s)
    (hacc : ∀ (t : Int) (i e : Nat) (f : Bool) (c : UInt8) (l : List UInt8), step t c.toNat = s → run t i e f (c :: l) = run s (i + 1) (i + 1) g l)
    (hu : ∀ (t : Int) (i e : Nat) (f : Bool) (c : UInt8) (l : List UInt8), step t c.toNat = u → run t i e f (c :: l) = run u (i + 1) e f l) :
    ∀ (n : Nat) (m : List UInt8), m.length ≤ n → ∀ i, run s i i g m = run s (i + dig true m) (i + dig true m) g (m.drop (dig true m)) := by
  intro n
  induction n with
  | zero => intro m hm i; cases m with
    | nil => rfl
    | cons c l => simp at hm
  | succ n ih =>
    intro m hm i
    cases m with
    | nil => rfl
    | cons c l =>
      simp at hm
      by_cases hc : isD c = true
      · have e : dig true (c :: l) = dig true l + 1 := by simp [dig, hc]
        rw [e, List.drop_succ_cons, hacc s i i g c l (h1 c hc), ih l hm (i + 1)]
        rw [show i + 1 + dig true l = i + (dig true l + 1) by omega]
      · have hc' : isD c = false := by simpa using hc
        by_cases hx : c.toNat = 95 ∧ hdD l = true
        · obtain ⟨hx1, hx2⟩ := hx
          cases l with
          | nil => simp [hdD] at hx2
          | cons d r =>
            simp [hdD] at hx2
            have e1 : dig true (d :: r) = dig true r + 1 := by simp [dig, hx2]
            have e : dig true (c :: d :: r) = dig true r + 2 := by
              have : dig true (c :: d :: r) = dig true (d :: r) + 1 := by
                conv => lhs; unfold dig
                simp [hc', hx1, hdD, hx2]
              omega
            simp at hm
            have hs : step s (c.toNat : Int) = u := by rw [hx1]; exact h2
            rw [hu s i i g c (d :: r) hs, hacc u (i + 1) i g d r (h3 d hx2), ih r (by omega) (i + 1 + 1), e, List.drop_succ_cons, List.drop_succ_cons]
            rw [show i + 1 + 1 + dig true r = i + (dig true r + 2) by omega]
        · have e : dig true (c :: l) = 0 := by
            by_cases hx1 : c.toNat = 95
            · have hx2 : hdD l = false := by
                cases hh : hdD l with
                | false => rfl
                | true => exact absurd ⟨hx1, hh⟩ hx
              simp [dig, hc', hx2]
            · simp [dig, hc', hx1]
          rw [e]; rfl

theorem dig_rest (n : Nat) : ∀ (m : List UInt8), m.length ≤ n → dig true (m.drop (dig true m)) = 0 := by
  induction n with
  | zero => intro m hm; cases m with
    | nil => rfl
    | cons c l => simp at hm
  | succ n ih =>
    intro m hm
    cases m with
    | nil => rfl
    | cons c l =>
      simp at hm
      by_cases hc : isD c = true
      · have e : dig true (c :: l) = dig true l + 1 := by simp [dig, hc]
        rw [e, List.drop_succ_cons, ih l hm]
      · by_cases hx : ((c.toNat == 95) && hdD l) = true
        · have e : dig true (c :: l) = dig true l + 1 := by
            conv => lhs; unfold dig
            rw [if_neg hc, Bool.true_and, if_pos hx]
          rw [e, List.drop_succ_cons, ih l hm]
        · have e : dig true (c :: l) = 0 := by
            conv => lhs; unfold dig
            rw [if_neg hc, Bool.true_and, if_neg hx]
          rw [e, List.drop_zero, e]

/-- What stops a run of digits. -/
theorem dig0 {c : UInt8} {l : List UInt8} (h : dig true (c :: l) = 0) : isD c = false ∧ (c.toNat = 95 → hdD l = false) := by
  unfold dig at h
  by_cases hc : isD c = true
  · rw [if_pos hc] at h; omega
  · rw [if_neg hc] at h
    refine ⟨by simpa using hc, fun h95 => ?_⟩
    cases hh : hdD l with
    | false => rfl
    | true => rw [if_pos (by simp [h95, hh])] at h; omega

def isE (c : UInt8) : Bool := c.toNat == 101 || c.toNat == 69
def isSg (c : UInt8) : Bool := c.toNat == 43 || c.toNat == 45

/-- The exponent, read off what is left. -/
def xL (e : Nat) (f : Bool) : List UInt8 → Nat × Bool
  | [] => (e, f)
  | c :: r => if isE c then (match r with
      | [] => (e, f)
      | s :: r2 => if isSg s then (if hdD r2 then (e + 2 + dig false r2, true) else (e, f)) else if isD s then (e + 1 + dig false r, true) else (e, f))
    else (e, f)

/-- The fraction, read off what is left. -/
def dL (e : Nat) : List UInt8 → Nat × Bool
  | [] => (e, false)
  | c :: r => if (c.toNat == 46) && hdD r then (e + 1 + dig false r, true) else (e, false)

theorem at_nil {l : List UInt8} {e : Nat} (h : l.drop e = []) : l.length ≤ e := by
  have := congrArg List.length h; simp at this; omega
theorem at_cons {l r : List UInt8} {e : Nat} {c : UInt8} (h : l.drop e = c :: r) : e < l.length ∧ at' l e = c ∧ l.drop (e + 1) = r := by
  have hlt : e < l.length := by
    have := congrArg List.length h; simp at this; omega
  rw [List.drop_eq_getElem_cons hlt] at h
  obtain ⟨h1, h2⟩ := List.cons.inj h
  refine ⟨hlt, ?_, h2⟩
  unfold at'
  rw [List.getD_eq_getElem?_getD, List.getElem?_eq_getElem hlt]
  exact h1

theorem st1_dL (l : List UInt8) (p : Nat) : st1 l p = dL (dE l p) (l.drop (dE l p)) := by
  unfold st1
  generalize dE l p = e
  cases hm : l.drop e with
  | nil =>
    have h := at_nil hm
    have : dotB l e = false := by unfold dotB; simp; omega
    rw [this]; rfl
  | cons c r =>
    obtain ⟨h1, h2, h3⟩ := at_cons hm
    have hb : dotB l e = ((c.toNat == 46) && hdD r) := by
      unfold dotB
      rw [h2]
      cases hr : r with
      | nil =>
        rw [hr] at h3
        have := at_nil h3
        simp [hdD]; omega
      | cons d r2 =>
        rw [hr] at h3
        obtain ⟨g1, g2, g3⟩ := at_cons h3
        rw [g2]
        simp [g1, hdD]
    rw [hb]
    unfold dL dE
    rw [h3]

theorem st2_xL (l : List UInt8) (e : Nat) (f : Bool) : st2 l (e, f) = xL e f (l.drop e) := by
  unfold st2
  simp only
  cases hm : l.drop e with
  | nil =>
    have h := at_nil hm
    have : eB l e = false := by unfold eB; simp; omega
    rw [this]; rfl
  | cons c r =>
    obtain ⟨h1, h2, h3⟩ := at_cons hm
    have hb : eB l e = isE c := by unfold eB isE; rw [h2]; simp [h1]
    rw [hb]
    cases hr : r with
    | nil =>
      rw [hr] at h3
      have g := at_nil h3
      have hd : dgB l (xS l e) = false := by
        have := xS_bd l e
        unfold dgB; simp; omega
      rw [hd]
      simp [xL]
    | cons s r2 =>
      rw [hr] at h3
      obtain ⟨g1, g2, g3⟩ := at_cons h3
      have hsg : sgB l (e + 1) = isSg s := by unfold sgB isSg; rw [g2]; simp [g1]
      by_cases hs : isSg s = true
      · have hx : xS l e = e + 2 := by unfold xS; rw [hsg, if_pos hs]
        rw [hx]
        have hd : dgB l (e + 2) = hdD r2 := by
          unfold dgB
          cases hr2 : r2 with
          | nil => rw [hr2] at g3; have := at_nil g3; simp [hdD]; omega
          | cons d r3 =>
            rw [hr2] at g3
            obtain ⟨k1, k2, k3⟩ := at_cons g3
            rw [show e + 2 = e + 1 + 1 by omega, k2]; simp [k1, hdD]
        rw [hd]
        unfold dE xL
        rw [show l.drop (e + 2) = r2 from g3]
        simp only [hs, if_true]
        cases isE c <;> cases hdD r2 <;> rfl
      · have hs' : isSg s = false := by simpa using hs
        have hx : xS l e = e + 1 := by unfold xS; rw [hsg, if_neg hs]
        rw [hx]
        have hd : dgB l (e + 1) = isD s := by unfold dgB; rw [g2]; simp [g1]
        rw [hd]
        unfold dE xL
        rw [h3]
        simp only [hs', Bool.false_eq_true, if_false]
        cases isE c <;> cases isD s <;> rfl

/-! ### the states -/
theorem isD_I {c : UInt8} {b : Bool} (h : isD c = b) : isI (c.toNat : Int) = b := h

theorem s_dig {c : UInt8} (h : isD c = true) : step 0 c.toNat = 1 ∧ step 1 c.toNat = 1 ∧ step 2 c.toNat = 1 ∧ step 3 c.toNat = 4 ∧ step 4 c.toNat = 4 ∧ step 5 c.toNat = 4 ∧ step 6 c.toNat = 8 ∧ step 7 c.toNat = 8 ∧ step 8 c.toNat = 8 ∧ step 9 c.toNat = 8 := by
  have h' := isD_I h
  simp [step, h']
theorem s_nod {c : UInt8} (h : isD c = false) : step 2 c.toNat = 10 ∧ step 3 c.toNat = 10 ∧ step 5 c.toNat = 10 ∧ step 7 c.toNat = 10 ∧ step 9 c.toNat = 10 := by
  have h' := isD_I h
  simp [step, h']

theorem digs1 (m : List UInt8) (i : Nat) : run 1 i i false m = run 1 (i + dig true m) (i + dig true m) false (m.drop (dig true m)) :=
  run_digs 1 2 false (fun _ h => (s_dig h).2.1) (by decide) (fun _ h => (s_dig h).2.2.1) (fun _ _ _ _ _ _ h => run_1 h) (fun _ _ _ _ _ _ h => run_o h (by decide) (by decide) (by decide) (by decide)) m.length m (Nat.le_refl _) i
theorem digs4 (m : List UInt8) (i : Nat) : run 4 i i true m = run 4 (i + dig true m) (i + dig true m) true (m.drop (dig true m)) :=
  run_digs 4 5 true (fun _ h => (s_dig h).2.2.2.2.1) (by decide) (fun _ h => (s_dig h).2.2.2.2.2.1) (fun _ _ _ _ _ _ h => run_4 h) (fun _ _ _ _ _ _ h => run_o h (by decide) (by decide) (by decide) (by decide)) m.length m (Nat.le_refl _) i
theorem digs8 (m : List UInt8) (i : Nat) : run 8 i i true m = run 8 (i + dig true m) (i + dig true m) true (m.drop (dig true m)) :=
  run_digs 8 9 true (fun _ h => (s_dig h).2.2.2.2.2.2.2.2.1) (by decide) (fun _ h => (s_dig h).2.2.2.2.2.2.2.2.2) (fun _ _ _ _ _ _ h => run_8 h) (fun _ _ _ _ _ _ h => run_o h (by decide) (by decide) (by decide) (by decide)) m.length m (Nat.le_refl _) i

/-- Behind an underscore (or a point) that no digit follows the run is over. -/
theorem run_over (t : Int) (h : ∀ c : UInt8, isD c = false → step t c.toNat = 10) (i e : Nat) (f : Bool) (l : List UInt8) (hl : hdD l = false) : run t i e f l = (e, f) := by
  cases l with
  | nil => rfl
  | cons c r => exact run_dead (h c hl)

theorem stop8 (m : List UInt8) (i : Nat) (h : dig true m = 0) : run 8 i i true m = (i, true) := by
  cases m with
  | nil => rfl
  | cons c r =>
    obtain ⟨h1, h2⟩ := dig0 h
    by_cases h95 : c.toNat = 95
    · have : step 8 (c.toNat : Int) = 9 := by rw [h95]; decide
      rw [run_o this (by decide) (by decide) (by decide) (by decide)]
      exact run_over 9 (fun c h => (s_nod h).2.2.2.2) _ _ _ _ (h2 h95)
    · have h3 : ¬ (c.toNat : Int) = 95 := by omega
      exact run_dead (by simp [step, isD_I h1, h3])

theorem all8 (m : List UInt8) (i : Nat) : run 8 i i true m = (i + dig true m, true) := by
  rw [digs8, stop8 _ _ (dig_rest _ m (Nat.le_refl _))]

theorem dig_ft {c : UInt8} {l : List UInt8} (b : Bool) (h : isD c = true) : dig b (c :: l) = dig true l + 1 := by simp [dig, h]

theorem all6 (c : UInt8) (r : List UInt8) (e : Nat) (f : Bool) (hE : isE c = true) : run 6 (e + 1) e f r = xL e f (c :: r) := by
  unfold xL
  dsimp only
  rw [if_pos hE]
  cases r with
  | nil => rfl
  | cons s r2 =>
    simp only
    by_cases hs : isSg s = true
    · rw [if_pos hs]
      have hs2 : (s.toNat : Int) = 43 ∨ (s.toNat : Int) = 45 := by unfold isSg at hs; simp at hs; omega
      have hn : isI (s.toNat : Int) = false := by
        rcases hs2 with h | h <;> rw [h] <;> decide
      have h7 : step 6 (s.toNat : Int) = 7 := by simp [step, hn, hs2]
      rw [run_o h7 (by decide) (by decide) (by decide) (by decide)]
      cases hh : hdD r2 with
      | false => exact run_over 7 (fun c h => (s_nod h).2.2.2.1) _ _ _ _ hh
      | true =>
        cases r2 with
        | nil => simp [hdD] at hh
        | cons d r3 =>
          have hd : isD d = true := hh
          rw [run_8 (s_dig hd).2.2.2.2.2.2.2.1, all8, dig_ft false hd]
          simp only [if_true]
          rw [show e + 1 + 1 + 1 + dig true r3 = e + 2 + (dig true r3 + 1) by omega]
    · rw [if_neg hs]
      have hs1 : ¬ ((s.toNat : Int) = 43 ∨ (s.toNat : Int) = 45) := by unfold isSg at hs; simp at hs; omega
      cases hd : isD s with
      | true =>
        rw [run_8 (s_dig hd).2.2.2.2.2.2.1, all8, dig_ft false hd]
        simp only [if_true]
        rw [show e + 1 + 1 + dig true r2 = e + 1 + (dig true r2 + 1) by omega]
      | false =>
        rw [run_dead (by simp [step, isD_I hd, hs1])]
        rfl

theorem isE_I {c : UInt8} {b : Bool} (h : isE c = b) : (decide ((c.toNat : Int) = 101 ∨ (c.toNat : Int) = 69)) = b := by
  rw [← h]; unfold isE; rw [Bool.eq_iff_iff]; simp; omega

theorem stop4 (m : List UInt8) (i : Nat) (h : dig true m = 0) : run 4 i i true m = xL i true m := by
  cases m with
  | nil => rfl
  | cons c r =>
    obtain ⟨h1, h2⟩ := dig0 h
    by_cases h95 : c.toNat = 95
    · have h5 : step 4 (c.toNat : Int) = 5 := by rw [h95]; decide
      have hE : isE c = false := by simp [isE, h95]
      rw [run_o h5 (by decide) (by decide) (by decide) (by decide), run_over 5 (fun c h => (s_nod h).2.2.1) _ _ _ _ (h2 h95)]
      simp [xL, hE]
    · have h3 : ¬ (c.toNat : Int) = 95 := by omega
      cases hE : isE c with
      | true =>
        have h6 : step 4 (c.toNat : Int) = 6 := by
          have := of_decide_eq_true (isE_I hE)
          simp [step, isD_I h1, h3, this]
        rw [run_o h6 (by decide) (by decide) (by decide) (by decide), all6 c r i true hE]
      | false =>
        have := of_decide_eq_false (isE_I hE)
        rw [run_dead (by simp [step, isD_I h1, h3, this])]
        simp [xL, hE]

theorem all4 (m : List UInt8) (i : Nat) : run 4 i i true m = xL (i + dig true m) true (m.drop (dig true m)) := by
  rw [digs4, stop4 _ _ (dig_rest _ m (Nat.le_refl _))]

/-- Behind the point. -/
theorem all3 (c : UInt8) (r : List UInt8) (i : Nat) (hc : c.toNat = 46) : run 3 (i + 1) i false r = xL (dL i (c :: r)).1 (dL i (c :: r)).2 ((c :: r).drop ((dL i (c :: r)).1 - i)) := by
  have hE : isE c = false := by simp [isE, hc]
  cases hh : hdD r with
  | false =>
    rw [run_over 3 (fun c h => (s_nod h).2.1) _ _ _ _ hh]
    have : dL i (c :: r) = (i, false) := by simp [dL, hh]
    rw [this]
    simp [xL, hE]
  | true =>
    cases r with
    | nil => simp [hdD] at hh
    | cons d r2 =>
      have hd : isD d = true := hh
      have e1 : dL i (c :: d :: r2) = (i + 1 + (dig true r2 + 1), true) := by
        unfold dL
        dsimp only
        rw [if_pos (by simp [hc, hh]), dig_ft false hd]
      rw [e1, run_4 (s_dig hd).2.2.2.1, all4]
      simp only
      rw [show i + 1 + (dig true r2 + 1) - i = dig true r2 + 1 + 1 by omega, List.drop_succ_cons, List.drop_succ_cons,
        show i + 1 + 1 + dig true r2 = i + 1 + (dig true r2 + 1) by omega]

/-- The start, and a number's digits over: what follows decides. -/
theorem stopS (t : Int) (ht : t = 0 ∨ t = 1) (m : List UInt8) (i : Nat) (h : t = 0 → hdD m = false) (h' : t = 1 → dig true m = 0) :
    run t i i false m = xL (dL i m).1 (dL i m).2 (m.drop ((dL i m).1 - i)) := by
  cases m with
  | nil => simp [dL, xL, run]
  | cons c r =>
    have h1 : isD c = false := by
      rcases ht with rfl | rfl
      · exact h rfl
      · exact (dig0 (h' rfl)).1
    by_cases h46 : c.toNat = 46
    · have h3 : step t (c.toNat : Int) = 3 := by
        rw [h46]; rcases ht with rfl | rfl <;> decide
      rw [run_o h3 (by decide) (by decide) (by decide) (by decide), all3 c r i h46]
    · have e1 : dL i (c :: r) = (i, false) := by simp [dL, h46]
      rw [e1]
      simp only [Nat.sub_self, List.drop_zero]
      have g46 : ¬ (c.toNat : Int) = 46 := by omega
      cases hE : isE c with
      | true =>
        have hE2 := of_decide_eq_true (isE_I hE)
        have g95 : ¬ (c.toNat : Int) = 95 := by omega
        have h6 : step t (c.toNat : Int) = 6 := by
          rcases ht with rfl | rfl <;> simp [step, isD_I h1, g46, g95, hE2]
        rw [run_o h6 (by decide) (by decide) (by decide) (by decide), all6 c r i false hE]
      | false =>
        have hE2 := of_decide_eq_false (isE_I hE)
        have ex : xL i false (c :: r) = (i, false) := by simp [xL, hE]
        rw [ex]
        by_cases h95 : t = 1 ∧ c.toNat = 95
        · obtain ⟨rfl, h95⟩ := h95
          have h2 : step 1 (c.toNat : Int) = 2 := by rw [h95]; decide
          rw [run_o h2 (by decide) (by decide) (by decide) (by decide)]
          exact run_over 2 (fun c h => (s_nod h).1) _ _ _ _ ((dig0 (h' rfl)).2 h95)
        · refine run_dead ?_
          rcases ht with rfl | rfl
          · simp [step, isD_I h1, g46, hE2]
          · have g95 : ¬ (c.toNat : Int) = 95 := by
              intro h; exact h95 ⟨rfl, by omega⟩
            simp [step, isD_I h1, g46, g95, hE2]

theorem run_fe (l : List UInt8) (p : Nat) : run 0 p p false (l.drop p) = fe l p := by
  have key : ∀ e, e = dE l p → xL (dL e (l.drop e)).1 (dL e (l.drop e)).2 ((l.drop e).drop ((dL e (l.drop e)).1 - e)) = fe l p := by
    intro e he
    unfold fe
    rw [st1_dL, ← he]
    have hge : e ≤ (dL e (l.drop e)).1 := by
      unfold dL
      split
      · exact Nat.le_refl _
      · split
        · simp only; omega
        · exact Nat.le_refl _
    rw [show dL e (l.drop e) = ((dL e (l.drop e)).1, (dL e (l.drop e)).2) from rfl, st2_xL, List.drop_drop]
    simp only
    rw [show e + ((dL e (l.drop e)).1 - e) = (dL e (l.drop e)).1 by omega]
  cases hh : hdD (l.drop p) with
  | false =>
    have hd : dig false (l.drop p) = 0 := by
      cases hm : l.drop p with
      | nil => rfl
      | cons c r => rw [hm] at hh; have : isD c = false := hh; simp [dig, this]
    rw [stopS 0 (.inl rfl) (l.drop p) p (fun _ => hh) (fun h => by omega)]
    exact key p (by unfold dE; omega)
  | true =>
    cases hm : l.drop p with
    | nil => rw [hm] at hh; simp [hdD] at hh
    | cons c r =>
      rw [hm] at hh
      have hc : isD c = true := hh
      have hr : l.drop (p + 1) = r := (at_cons hm).2.2
      have he : p + 1 + dig true r = dE l p := by unfold dE; rw [hm, dig_ft false hc]; omega
      have hdr : r.drop (dig true r) = l.drop (p + 1 + dig true r) := by rw [← hr, List.drop_drop]
      rw [run_1 (s_dig hc).1, digs1, stopS 1 (.inr rfl) _ _ (fun h => by omega) (fun _ => dig_rest _ r (Nat.le_refl _)), hdr]
      exact key _ he
end Go.Proofs.Qxb6601994a.Fl
