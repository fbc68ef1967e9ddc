/- The plain laws of the float scanner: the shift and the cut. -/
import Derived.Test.Qxb6601994aPlain
namespace Go.Proofs.Qxb6601994a.Fl

/-! ### text put before -/
theorem dE_shift (x l : List UInt8) (p : Nat) : dE (x ++ l) (x.length + p) = x.length + dE l p := by
  unfold dE
  rw [List.drop_append, List.drop_of_length_le (by omega)]
  simp
  omega

theorem at_shift (x l : List UInt8) (k : Nat) : at' (x ++ l) (x.length + k) = at' l k := by
  unfold at'
  simp [List.getElem?_append_right]

theorem lt_shift (x l : List UInt8) (k : Nat) : decide (x.length + k < (x ++ l).length) = decide (k < l.length) := by
  simp

theorem dotB_shift (x l : List UInt8) (e : Nat) : dotB (x ++ l) (x.length + e) = dotB l e := by
  unfold dotB
  have h1 : x.length + e + 1 = x.length + (e + 1) := by omega
  rw [h1, at_shift, at_shift, lt_shift]

theorem eB_shift (x l : List UInt8) (e : Nat) : eB (x ++ l) (x.length + e) = eB l e := by
  unfold eB; rw [at_shift, lt_shift]
theorem sgB_shift (x l : List UInt8) (e : Nat) : sgB (x ++ l) (x.length + e) = sgB l e := by
  unfold sgB; rw [at_shift, lt_shift]
theorem dgB_shift (x l : List UInt8) (e : Nat) : dgB (x ++ l) (x.length + e) = dgB l e := by
  unfold dgB; rw [at_shift, lt_shift]

theorem st1_shift (x l : List UInt8) (p : Nat) : st1 (x ++ l) (x.length + p) = (x.length + (st1 l p).1, (st1 l p).2) := by
  unfold st1
  rw [dE_shift, dotB_shift]
  have h1 : x.length + dE l p + 1 = x.length + (dE l p + 1) := by omega
  rw [h1, dE_shift]
  split <;> rfl

theorem xS_shift (x l : List UInt8) (e : Nat) : xS (x ++ l) (x.length + e) = x.length + xS l e := by
  unfold xS
  have h1 : x.length + e + 1 = x.length + (e + 1) := by omega
  rw [h1, sgB_shift]
  split <;> omega

theorem st2_shift (x l : List UInt8) (e : Nat) (f : Bool) : st2 (x ++ l) (x.length + e, f) = (x.length + (st2 l (e, f)).1, (st2 l (e, f)).2) := by
  unfold st2
  simp only
  rw [eB_shift, xS_shift, dgB_shift, dE_shift]
  split <;> rfl

theorem fe_shift (x l : List UInt8) (p : Nat) : fe (x ++ l) (x.length + p) = (x.length + (fe l p).1, (fe l p).2) := by
  unfold fe
  rw [st1_shift, st2_shift]

/-! ### the cut -/
theorem hdD_take (l : List UInt8) (m : Nat) (h : 1 ≤ m) : hdD (l.take m) = hdD l := by
  obtain ⟨k, rfl⟩ : ∃ k, m = k + 1 := ⟨m - 1, by omega⟩
  cases l <;> rfl

theorem hdD_of_take (l : List UInt8) (m : Nat) (h : hdD (l.take m) = true) : hdD l = true := by
  cases m with
  | zero => simp [hdD] at h
  | succ k => cases l with
    | nil => simp [hdD] at h
    | cons c r => exact h

theorem dig_pos (l : List UInt8) (b : Bool) (h : hdD l = true) : 1 ≤ dig b l := by
  cases l with
  | nil => simp [hdD] at h
  | cons c r => simp [hdD] at h; simp [dig, h]

theorem dig_take : ∀ (b : Bool) (l : List UInt8) (m : Nat), dig b l ≤ m → dig b (l.take m) = dig b l
  | _, [], m, _ => by simp
  | b, c :: l, 0, h => by
    have : dig b (c :: l) = 0 := by omega
    rw [this]; simp [dig]
  | b, c :: l, m + 1, h => by
    have ih := dig_take true l m
    rw [List.take_succ_cons]
    unfold dig at h ⊢
    by_cases hc : isD c = true
    · rw [if_pos hc] at h ⊢
      rw [if_pos hc, ih (by omega)]
    · rw [if_neg hc] at h ⊢
      rw [if_neg hc]
      by_cases hu : (b && (c.toNat == 95) && hdD l) = true
      · rw [if_pos hu] at h
        have hh : hdD l = true := by simp at hu; exact hu.2
        have h1 := dig_pos l true hh
        have e : hdD (l.take m) = hdD l := hdD_take l m (by omega)
        rw [e, if_pos hu, if_pos hu, ih (by omega)]
      · have hu' : ¬ (b && (c.toNat == 95) && hdD (l.take m)) = true := by
          intro h5
          apply hu
          simp at h5 ⊢
          exact ⟨h5.1, hdD_of_take l m h5.2⟩
        rw [if_neg hu, if_neg hu']

theorem dE_take (l : List UInt8) (p m : Nat) (h : dE l p ≤ m) : dE (l.take m) p = dE l p := by
  unfold dE at *
  rw [List.drop_take, dig_take false _ _ (by omega)]

theorem at_take (l : List UInt8) (m k : Nat) (h : k < m) : at' (l.take m) k = at' l k := by
  unfold at'
  simp [List.getElem?_take_of_lt h]

theorem dotB_take (l : List UInt8) (e m : Nat) (h : e + 1 < m) : dotB (l.take m) e = dotB l e := by
  unfold dotB
  rw [at_take l m e (by omega), at_take l m (e + 1) h]
  have : decide (e + 1 < (l.take m).length) = decide (e + 1 < l.length) := by
    simp only [List.length_take, decide_eq_decide]; omega
  rw [this]

theorem dotB_of_take (l : List UInt8) (e m : Nat) (h : dotB (l.take m) e = true) : dotB l e = true := by
  have hlt : e + 1 < m := by
    unfold dotB at h
    simp only [List.length_take, Bool.and_eq_true, decide_eq_true_eq] at h
    omega
  rw [dotB_take l e m hlt] at h
  exact h

theorem dig1 (l : List UInt8) (e : Nat) (h : dgB l e = true) : e + 1 ≤ dE l e := by
  unfold dgB at h
  simp only [Bool.and_eq_true, decide_eq_true_eq] at h
  unfold dE
  have : 1 ≤ dig false (l.drop e) := by
    apply dig_pos
    rw [List.drop_eq_getElem_cons h.1]
    have h2 := h.2
    unfold at' at h2
    rw [List.getD_eq_getElem?_getD, List.getElem?_eq_getElem h.1] at h2
    exact h2
  omega

theorem dot_dg (l : List UInt8) (e : Nat) (h : dotB l e = true) : dgB l (e + 1) = true := by
  unfold dotB at h
  unfold dgB
  simp only [Bool.and_eq_true, decide_eq_true_eq] at h ⊢
  exact ⟨h.1.1, h.2⟩

theorem st1_take (l : List UInt8) (p m : Nat) (h : (st1 l p).1 ≤ m) : st1 (l.take m) p = st1 l p := by
  by_cases hd : dotB l (dE l p) = true
  · have e1 : st1 l p = (dE l (dE l p + 1), true) := by unfold st1; rw [if_pos hd]
    rw [e1] at h ⊢
    simp only at h
    have h2 := dig1 l _ (dot_dg l _ hd)
    unfold st1
    rw [dE_take l p m (by omega), dotB_take l _ m (by omega), if_pos hd, dE_take l _ m h]
  · have e1 : st1 l p = (dE l p, false) := by unfold st1; rw [if_neg hd]
    rw [e1] at h ⊢
    simp only at h
    unfold st1
    rw [dE_take l p m (by omega), if_neg (fun h5 => hd (dotB_of_take l _ m h5))]

theorem xS_bd (l : List UInt8) (e : Nat) : e + 1 ≤ xS l e ∧ xS l e ≤ e + 2 := by
  unfold xS; split <;> omega

theorem eB_take (l : List UInt8) (e m : Nat) (h : e < m) : eB (l.take m) e = eB l e := by
  unfold eB
  rw [at_take l m e h]
  have : decide (e < (l.take m).length) = decide (e < l.length) := by
    simp only [List.length_take, decide_eq_decide]; omega
  rw [this]
theorem sgB_take (l : List UInt8) (e m : Nat) (h : e < m) : sgB (l.take m) e = sgB l e := by
  unfold sgB
  rw [at_take l m e h]
  have : decide (e < (l.take m).length) = decide (e < l.length) := by
    simp only [List.length_take, decide_eq_decide]; omega
  rw [this]
theorem dgB_take (l : List UInt8) (e m : Nat) (h : e < m) : dgB (l.take m) e = dgB l e := by
  unfold dgB
  rw [at_take l m e h]
  have : decide (e < (l.take m).length) = decide (e < l.length) := by
    simp only [List.length_take, decide_eq_decide]; omega
  rw [this]

theorem st2_take (l : List UInt8) (ef : Nat × Bool) : st2 (l.take (st2 l ef).1) ef = st2 l ef := by
  by_cases hx : (eB l ef.1 && dgB l (xS l ef.1)) = true
  · have e1 : st2 l ef = (dE l (xS l ef.1), true) := by unfold st2; rw [if_pos hx]
    rw [e1]
    simp only
    simp only [Bool.and_eq_true] at hx
    have h2 := dig1 l _ hx.2
    have h3 := xS_bd l ef.1
    have ex : xS (l.take (dE l (xS l ef.1))) ef.1 = xS l ef.1 := by
      unfold xS at h2 h3 ⊢
      rw [sgB_take l _ _ (by omega)]
    unfold st2
    rw [ex, eB_take l _ _ (by omega), dgB_take l _ _ (by omega), if_pos (by simp [hx]), dE_take l _ _ (Nat.le_refl _)]
  · have e1 : st2 l ef = ef := by unfold st2; rw [if_neg hx]
    rw [e1]
    have : eB (l.take ef.1) ef.1 = false := by
      unfold eB
      have : decide (ef.1 < (l.take ef.1).length) = false := by
        simp only [List.length_take, decide_eq_false_iff_not]; omega
      rw [this]; rfl
    unfold st2
    rw [this]; rfl

theorem st2_ge (l : List UInt8) (ef : Nat × Bool) : ef.1 ≤ (st2 l ef).1 := by
  unfold st2
  split
  · rename_i hx
    have h3 := xS_bd l ef.1
    simp only
    unfold dE
    omega
  · exact Nat.le_refl _

theorem fe_take (l : List UInt8) (p : Nat) : fe (l.take (fe l p).1) p = fe l p := by
  unfold fe
  rw [st1_take l p _ (st2_ge l _), st2_take]

theorem fe_alone (l : List UInt8) (p : Nat) (hp : p ≤ l.length) : fe ((l.take (fe l p).1).drop p) 0 = ((fe l p).1 - p, (fe l p).2) := by
  have h1 := fe_le l p hp
  have h2 := fe_take l p
  have h3 : l.take (fe l p).1 = l.take p ++ (l.take (fe l p).1).drop p := by
    conv => lhs; rw [← List.take_append_drop p (l.take (fe l p).1)]
    rw [List.take_take, Nat.min_eq_left h1.1]
  have h4 := fe_shift (l.take p) ((l.take (fe l p).1).drop p) 0
  rw [← h3] at h4
  have h5 : (l.take p).length + 0 = p := by simp; omega
  rw [h5, h2] at h4
  have h6 : (l.take p).length = p := by simp; omega
  rw [h6] at h4
  have h7 := congrArg Prod.fst h4
  have h8 := congrArg Prod.snd h4
  simp only at h7 h8
  apply Prod.ext
  · simp only; omega
  · exact h8.symm
end Go.Proofs.Qxb6601994a.Fl
