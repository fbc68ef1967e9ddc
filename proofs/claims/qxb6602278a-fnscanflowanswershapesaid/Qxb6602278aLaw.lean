/- The plain laws of scanFlow: the shift, the cut, the answer's shape. -/
import Derived.Test.Qxb6602278aWalkC
namespace Go.Proofs.Qxb6602278a
open Sf

/-! ### text put before -/
theorem B_shift (x M : List Int) (k : Nat) : B (x ++ M) (k + x.length) = B M k := by
  unfold B
  simp [List.getElem?_append_right]
theorem len_shift (x M : List Int) : (x ++ M).length = M.length + x.length := by simp; omega
theorem drop_shift (x M : List Int) (k : Nat) : (x ++ M).drop (k + x.length) = M.drop k := by
  rw [List.drop_append, List.drop_of_length_le (by omega)]
  simp

theorem qpos_shift (q : Int) (x M : List Int) (j : Nat) : qpos q (x ++ M) (j + x.length) = qpos q M j + x.length := by
  unfold qpos
  rw [len_shift, drop_shift]
  by_cases h : M.length ≤ j
  · rw [if_pos h, if_pos (by omega)]
  · rw [if_neg h, if_neg (by omega)]; omega
theorem qe_shift (x M : List Int) (k : Nat) : qe (x ++ M) (k + x.length) = qe M k + x.length := by
  unfold qe
  rw [B_shift, show k + x.length + 1 = k + 1 + x.length by omega, qpos_shift]
theorem skip_shift (x M : List Int) (k : Nat) : skip (x ++ M) (k + x.length) = skip M k + x.length := by
  unfold skip
  rw [drop_shift]; omega
theorem isCom_shift (x M : List Int) (k : Nat) (h : 1 ≤ k) : isCom (x ++ M) (k + x.length) = isCom M k := by
  unfold isCom
  rw [B_shift, show k + x.length - 1 = k - 1 + x.length by omega, B_shift]
  have h1 : decide (0 < k + x.length) = true := by simp; omega
  have h2 : decide (0 < k) = true := by simp; omega
  rw [h1, h2]

def sh (n : Nat) (s : St) : St := ⟨s.k + n, s.d, s.pv, s.C.map (· + n), s.ce + n⟩
def shR (n : Nat) (r : Res) : Res := ⟨r.C.map (· + n), if r.ok then r.close + n else 0, r.ce + n, r.ok⟩

theorem ends_shift (x M : List Int) (s : St) (h : 1 ≤ s.k) : ends (x ++ M) (sh x.length s) = ends M s := by
  unfold ends isQ sh
  simp only
  rw [B_shift, isCom_shift x M s.k h]
theorem next_shift (x M : List Int) (s : St) (h : 1 ≤ s.k) : next (x ++ M) (sh x.length s) = sh x.length (next M s) := by
  have hq : isQ (x ++ M) (sh x.length s) = isQ M s := by unfold isQ sh; simp only; rw [B_shift]
  have hc : isCom (x ++ M) (sh x.length s).k = isCom M s.k := isCom_shift x M s.k h
  have hb : B (x ++ M) (sh x.length s).k = B M s.k := B_shift x M s.k
  have hsk : skip (x ++ M) (sh x.length s).k = skip M s.k + x.length := skip_shift x M s.k
  have hqe : qe (x ++ M) (sh x.length s).k = qe M s.k + x.length := qe_shift x M s.k
  unfold next
  rw [hb, hc, hq, hsk, hqe]
  by_cases h1 : isWs (B M s.k) = true
  · rw [if_pos h1, if_pos h1]; simp only [sh]; rw [show s.k + x.length + 1 = s.k + 1 + x.length by omega]
  rw [if_neg h1, if_neg h1]
  by_cases h2 : isCom M s.k = true
  · rw [if_pos h2, if_pos h2]; rfl
  rw [if_neg h2, if_neg h2]
  by_cases h3 : isQ M s = true
  · rw [if_pos h3, if_pos h3]; rfl
  rw [if_neg h3, if_neg h3]
  have ek : (sh x.length s).k + 1 = s.k + 1 + x.length := by simp only [sh]; omega
  rw [ek]
  by_cases h4 : isOp (B M s.k) = true
  · rw [if_pos h4, if_pos h4]; rfl
  rw [if_neg h4, if_neg h4]
  by_cases h5 : isCl (B M s.k) = true
  · rw [if_pos h5, if_pos h5]; rfl
  rw [if_neg h5, if_neg h5]
  have ed : (sh x.length s).d = s.d := rfl
  rw [ed]
  by_cases h6 : (B M s.k == 44 && s.d == 1) = true
  · rw [if_pos h6, if_pos h6]; simp [put, sh]
  rw [if_neg h6, if_neg h6]; rfl

theorem run_shift (x M : List Int) : ∀ (f : Nat) (s : St), 1 ≤ s.k → run (x ++ M) f (sh x.length s) = shR x.length (run M f s)
  | 0, s, _ => by simp [run, sh, shR]
  | f + 1, s, h => by
    unfold run
    rw [ends_shift x M s h, next_shift x M s h, len_shift]
    have ek : (sh x.length s).k = s.k + x.length := rfl
    rw [ek]
    by_cases h1 : M.length ≤ s.k
    · rw [if_pos h1, if_pos (by omega)]; simp [sh, shR]
    · rw [if_neg h1, if_neg (by omega)]
      by_cases h2 : ends M s = true
      · rw [if_pos h2, if_pos h2]; simp [sh, shR]
      · rw [if_neg h2, if_neg h2]
        have hn := next_lt M s (by omega)
        exact run_shift x M f (next M s) (by omega)

/-- The state behind an opening bracket at the head. -/
def st1 (M : List Int) : St := ⟨1, 1, B M 0, [], 1⟩

theorem run_any (L : List Int) : ∀ (n f : Nat) (s : St), L.length - s.k ≤ n → L.length - s.k ≤ f → run L f s = run L n s
  | 0, f, s, h, _ => by rw [run_end L f s (by omega)]; rfl
  | n + 1, 0, s, _, h2 => by rw [run_end L (n + 1) s (by omega)]; rfl
  | n + 1, f + 1, s, h1, h2 => by
    unfold run
    by_cases hk : L.length ≤ s.k
    · rw [if_pos hk, if_pos hk]
    · rw [if_neg hk, if_neg hk]
      by_cases he : ends L s = true
      · rw [if_pos he, if_pos he]
      · rw [if_neg he, if_neg he]
        have hn := next_lt L s (by omega)
        exact run_any L n f (next L s) (by omega) (by omega)

theorem isOp_of {c : Int} (h : c = 91 ∨ c = 123) : isOp c = true := by rcases h with h | h <;> rw [h] <;> decide

theorem scan_shift (x M : List Int) (h0 : B M 0 = 91 ∨ B M 0 = 123) (hM : 0 < M.length) : scan (x ++ M) x.length = shR x.length (run M M.length (st1 M)) := by
  have hb : B (x ++ M) x.length = B M 0 := by have := B_shift x M 0; rwa [Nat.zero_add] at this
  unfold scan
  have hlen : (x ++ M).length - x.length = M.length - 1 + 1 := by simp; omega
  have hN := n_op (L := x ++ M) (k := x.length) (d := 0) (pv := 0) (C := []) (ce := 0) (by rw [hb]; exact h0)
  rw [hlen]
  conv => lhs; unfold run
  rw [if_neg (by simp; omega), hN.1, hN.2, hb]
  simp only [Bool.false_eq_true, if_false]
  have e : (⟨x.length + 1, 0 + 1, B M 0, [], x.length + 1⟩ : St) = sh x.length (st1 M) := by
    simp [sh, st1]; omega
  rw [e, run_shift x M _ _ (Nat.le_refl _), run_any M M.length (M.length - 1) (st1 M) (by simp [st1]) (by simp [st1])]

/-! ### the cut -/
theorem close_ge (L : List Int) : ∀ (f : Nat) (s : St), (run L f s).ok = true → s.k ≤ (run L f s).close ∧ (run L f s).close < L.length
  | 0, s, h => by simp [run] at h
  | f + 1, s, h => by
    unfold run at h ⊢
    by_cases hk : L.length ≤ s.k
    · rw [if_pos hk] at h; simp at h
    · rw [if_neg hk] at h ⊢
      by_cases he : ends L s = true
      · rw [if_pos he]; simp only; omega
      · rw [if_neg he] at h ⊢
        have hn := next_lt L s (by omega)
        have := close_ge L f (next L s) h
        omega

theorem skip_agree (M M' : List Int) (c : Nat) (hc : c < M.length) (hc' : c < M'.length) (hag : ∀ i, i ≤ c → B M' i = B M i) :
    ∀ (n k : Nat), M.length - k ≤ n → skip M k ≤ c → skip M' k = skip M k
  | n, k, hn, hj => by
    have hk : k < M.length := by
      have := (skip_bd M k)
      rcases Nat.lt_or_ge k M.length with h | h
      · exact h
      · rw [skip_end h] at hj; omega
    have hkc : k ≤ c := by have := (skip_bd M k (by omega)).1; omega
    by_cases h : isNl (B M k) = true
    · rw [skip_stop hk h, skip_stop (by omega) (by rw [hag k hkc]; exact h)]
    · have h' : isNl (B M k) = false := by simpa using h
      rw [skip_go hk h'] at hj ⊢
      rw [skip_go (L := M') (by omega) (by rw [hag k hkc]; exact h')]
      match n, hn with
      | 0, hn => omega
      | n + 1, hn => exact skip_agree M M' c hc hc' hag n (k + 1) (by omega) hj

theorem qpos_agree (q : Int) (M M' : List Int) (c : Nat) (hc : c < M.length) (hc' : c < M'.length) (hag : ∀ i, i ≤ c → B M' i = B M i) :
    ∀ (n k : Nat), M.length - k ≤ n → qpos q M k ≤ c → qpos q M' k = qpos q M k
  | n, k, hn, hj => by
    have hk : k < M.length := by
      rcases Nat.lt_or_ge k M.length with h | h
      · exact h
      · rw [qpos_end h] at hj; omega
    have hkc : k ≤ c := by have := (qpos_bd q M k (by omega)).1; omega
    have hb := hag k hkc
    match n, hn with
    | 0, hn => omega
    | n + 1, hn =>
      by_cases h1 : (q == 34 && B M k == 92) = true
      · have hq : q = 34 := by simp at h1; exact h1.1
        have hq2 : (B M k == 92) = true := by simp at h1; simp [h1.2]
        subst hq
        rw [qpos_esc hk hq2] at hj ⊢
        rw [qpos_esc (L := M') (by omega) (by rw [hb]; exact hq2)]
        exact qpos_agree 34 M M' c hc hc' hag n (k + 2) (by omega) hj
      · have h1' : (q == 34 && B M k == 92) = false := by simpa using h1
        have h1m : (q == 34 && B M' k == 92) = false := by rw [hb]; exact h1'
        by_cases h2 : (B M k == q) = true
        · by_cases h3 : q = 39 ∧ k + 1 < M.length ∧ (B M (k + 1) == 39) = true
          · obtain ⟨hq, hk1, hb1⟩ := h3
            subst hq
            rw [qpos_dbl hk1 h2 hb1] at hj ⊢
            have hk2 : k + 2 ≤ c := by
              rcases Nat.lt_or_ge (k + 2) M.length with h | h
              · have := (qpos_bd 39 M (k + 2) (by omega)).1; omega
              · rw [qpos_end h] at hj; omega
            rw [qpos_dbl (L := M') (by omega) (by rw [hb]; exact h2) (by rw [hag (k + 1) (by omega)]; exact hb1)]
            exact qpos_agree 39 M M' c hc hc' hag n (k + 2) (by omega) hj
          · have hh : qpos q M k = k + 1 := qpos_hit hk h1' h2 (fun hq hk1 => by
              cases hx : (B M (k + 1) == 39) with
              | false => rfl
              | true => exact absurd ⟨hq, hk1, hx⟩ h3)
            rw [hh] at hj ⊢
            refine qpos_hit (by omega) h1m (by rw [hb]; exact h2) (fun hq hk1 => ?_)
            rw [hag (k + 1) hj]
            cases hx : (B M (k + 1) == 39) with
            | false => rfl
            | true => exact absurd ⟨hq, by omega, hx⟩ h3
        · have h2' : (B M k == q) = false := by simpa using h2
          rw [qpos_go hk h1' h2'] at hj ⊢
          rw [qpos_go (L := M') (by omega) h1m (by rw [hb]; exact h2')]
          exact qpos_agree q M M' c hc hc' hag n (k + 1) (by omega) hj

theorem run_cut (M M' : List Int) : ∀ (f : Nat) (s : St), (run M f s).ok = true → (run M f s).close < M'.length → (∀ i, i ≤ (run M f s).close → B M' i = B M i) → run M' f s = run M f s
  | 0, s, h, _, _ => by simp [run] at h
  | f + 1, s, h, hl, hag => by
    have hge := close_ge M (f + 1) s h
    unfold run at h hl hag hge ⊢
    by_cases hk : M.length ≤ s.k
    · rw [if_pos hk] at h; simp at h
    · rw [if_neg hk] at h hl hag hge ⊢
      by_cases he : ends M s = true
      · rw [if_pos he] at hl hag hge ⊢
        simp only at hl hag hge
        have hb := hag s.k (Nat.le_refl _)
        have hcm : isCom M' s.k = isCom M s.k := by unfold isCom; rw [hb, hag (s.k - 1) (by omega)]
        have he' : ends M' s = true := by
          rw [← he]; unfold ends isQ; rw [hb, hcm]
        rw [if_neg (by omega), if_pos he']
      · rw [if_neg he] at h hl hag hge ⊢
        have hn := next_lt M s (by omega)
        have hc := close_ge M f (next M s) h
        have ih := run_cut M M' f (next M s) h hl hag
        generalize (run M f (next M s)).close = c at *
        have hb := hag s.k (by omega)
        have hcm : isCom M' s.k = isCom M s.k := by unfold isCom; rw [hb, hag (s.k - 1) (by omega)]
        have hq : isQ M' s = isQ M s := by unfold isQ; rw [hb]
        have he' : ¬ ends M' s = true := by
          intro h5; apply he; rw [← h5]; unfold ends isQ; rw [hb, hcm]
        have hnext : next M' s = next M s := by
          unfold next at hn ⊢
          rw [hb, hcm, hq]
          by_cases h1 : isWs (B M s.k) = true
          · rw [if_pos h1, if_pos h1]
          rw [if_neg h1] at hn
          rw [if_neg h1, if_neg h1]
          by_cases h2 : isCom M s.k = true
          · rw [if_pos h2]
            rw [if_pos h2, skip_agree M M' c hc.2 hl hag _ s.k (Nat.le_refl _)]
            have hcc := hc.1
            unfold next at hcc
            rw [if_neg h1, if_pos h2] at hcc
            exact hcc
          rw [if_neg h2, if_neg h2]
          by_cases h3 : isQ M s = true
          · rw [if_pos h3, if_pos h3]
            have hcc := hc.1
            unfold next at hcc
            rw [if_neg h1, if_neg h2, if_pos h3] at hcc
            have hcc' : qe M s.k ≤ c := hcc
            have e : qe M' s.k = qe M s.k := by
              unfold qe at hcc' ⊢
              rw [hb]
              exact qpos_agree (B M s.k) M M' c hc.2 hl hag _ (s.k + 1) (Nat.le_refl _) hcc'
            rw [e]
          rw [if_neg h3, if_neg h3]
        rw [if_neg (by omega), if_neg he', hnext]
        exact ih

theorem qlen_pos (q : Int) (l : List Int) (h : 0 < l.length) : 0 < qlen q l := by
  match l, h with
  | [c], _ => unfold qlen; split <;> omega
  | c :: d :: r, _ =>
    unfold qlen
    split
    · omega
    · split
      · omega
      · split <;> omega
theorem qpos_pos (q : Int) (L : List Int) (j : Nat) (h : j < L.length) : j < qpos q L j := by
  unfold qpos
  rw [if_neg (by omega)]
  have := qlen_pos q (L.drop j) (by simp; omega)
  omega

/-! ### the law of what is read -/
/-- The answer over the text from its opening bracket on. -/
def own (L : List Int) (o : Nat) : Res := run (L.drop o) (L.drop o).length (st1 (L.drop o))

theorem B_drop (L : List Int) (o i : Nat) : B (L.drop o) i = B L (o + i) := by
  unfold B; simp

theorem scan_own (L : List Int) (o : Nat) (ho : o < L.length) (h0 : B L o = 91 ∨ B L o = 123) : scan L o = shR o (own L o) := by
  have hl : (L.take o).length = o := by simp; omega
  have h := scan_shift (L.take o) (L.drop o) (by rw [B_drop]; exact h0) (by simp; omega)
  rw [List.take_append_drop, hl] at h
  exact h

/-- The bytes that the collection takes, its closing bracket too; all that is left where it does not close. -/
def body (L : List Int) (o : Nat) : List Int := if (own L o).ok then (L.drop o).take ((own L o).close + 1) else L.drop o
def rest (L : List Int) (o : Nat) (tail : List Int) : List Int := if (own L o).ok then tail else []

theorem B_append_left (a b : List Int) (i : Nat) (h : i < a.length) : B (a ++ b) i = B a i := by
  unfold B; simp [List.getElem?_append_left h]
theorem B_take (a : List Int) (n i : Nat) (h : i < n) : B (a.take n) i = B a i := by
  unfold B; simp [List.getElem?_take_of_lt h]

theorem own_close (L : List Int) (o : Nat) (h : (own L o).ok = true) : 1 ≤ (own L o).close ∧ (own L o).close < (L.drop o).length := close_ge (L.drop o) _ (st1 (L.drop o)) h

theorem scan_again (pre L tail : List Int) (o : Nat) (ho : o < L.length) (h0 : B L o = 91 ∨ B L o = 123) :
    scan (pre ++ (body L o ++ rest L o tail)) pre.length = shR pre.length (own L o) := by
  have hd : 0 < (L.drop o).length := by simp; omega
  have hb0 : B (L.drop o) 0 = 91 ∨ B (L.drop o) 0 = 123 := by rw [B_drop]; exact h0
  by_cases hok : (own L o).ok = true
  · have hc := own_close L o hok
    have eb : body L o ++ rest L o tail = (L.drop o).take ((own L o).close + 1) ++ tail := by unfold body rest; rw [if_pos hok, if_pos hok]
    rw [eb]
    have hlt : ((L.drop o).take ((own L o).close + 1)).length = (own L o).close + 1 := by rw [List.length_take]; omega
    have hag : ∀ i, i ≤ (own L o).close → B ((L.drop o).take ((own L o).close + 1) ++ tail) i = B (L.drop o) i := by
      intro i hi
      rw [B_append_left _ _ _ (by omega), B_take _ _ _ (by omega)]
    generalize hM' : (L.drop o).take ((own L o).close + 1) ++ tail = M' at *
    have hl' : (own L o).close < M'.length := by rw [← hM', List.length_append]; omega
    have hz : B M' 0 = B (L.drop o) 0 := hag 0 (by omega)
    rw [scan_shift pre M' (by rw [hz]; exact hb0) (by omega)]
    have es : st1 M' = st1 (L.drop o) := by unfold st1; rw [hz]
    rw [es]
    have hF : run (L.drop o) ((L.drop o).length + M'.length) (st1 (L.drop o)) = own L o :=
      run_any _ _ _ _ (by omega) (by omega)
    have hcut := run_cut (L.drop o) M' ((L.drop o).length + M'.length) (st1 (L.drop o)) (by rw [hF]; exact hok) (by rw [hF]; exact hl') (by rw [hF]; exact hag)
    rw [hF] at hcut
    rw [← run_any M' M'.length ((L.drop o).length + M'.length) (st1 (L.drop o)) (by omega) (by omega), hcut]
  · have eb : body L o ++ rest L o tail = L.drop o := by unfold body rest; rw [if_neg hok, if_neg hok, List.append_nil]
    rw [eb, scan_shift pre (L.drop o) hb0 hd]
    rfl

/-! ### the answer's shape -/
def P (o : Nat) (C : List Nat) (i : Nat) : Nat := if i = 0 then o else C.getD (i - 1) 0

structure Good (L : List Int) (o : Nat) (C : List Nat) (ce : Nat) : Prop where
  com : ∀ i, i < C.length → P o C i < C.getD i 0 ∧ C.getD i 0 < L.length ∧ B L (C.getD i 0) = 44
  last : P o C C.length < ce
  le : ce ≤ L.length

theorem Good.put {L : List Int} {o : Nat} {C : List Nat} {ce ce' : Nat} (h : Good L o C ce) (h1 : ce ≤ ce') (h2 : ce' ≤ L.length) : Good L o C ce' :=
  ⟨h.com, by have := h.last; omega, h2⟩

theorem P_snoc (o : Nat) (C : List Nat) (k i : Nat) (h : i ≤ C.length) : P o (C ++ [k]) i = P o C i := by
  unfold P
  by_cases hi : i = 0
  · rw [if_pos hi, if_pos hi]
  · rw [if_neg hi, if_neg hi]
    simp [List.getElem?_append_left (show i - 1 < C.length by omega)]

theorem Good.snoc {L : List Int} {o : Nat} {C : List Nat} {ce k : Nat} (h : Good L o C ce) (hk : ce ≤ k) (hl : k < L.length) (hb : B L k = 44) : Good L o (C ++ [k]) (k + 1) := by
  refine ⟨?_, ?_, by omega⟩
  · intro i hi
    rw [List.length_append, List.length_singleton] at hi
    by_cases e : i = C.length
    · subst e
      rw [P_snoc o C k _ (Nat.le_refl _)]
      have eg : (C ++ [k]).getD C.length 0 = k := by simp
      rw [eg]
      have := h.last
      exact ⟨by omega, hl, hb⟩
    · rw [P_snoc o C k i (by omega)]
      have eg : (C ++ [k]).getD i 0 = C.getD i 0 := by simp [List.getElem?_append_left (show i < C.length by omega)]
      rw [eg]
      exact h.com i (by omega)
  · unfold P
    rw [if_neg (by simp)]
    simp

theorem qpos_last (q : Int) (L : List Int) : ∀ (n j : Nat), L.length - j ≤ n → j < qpos q L j → qpos q L j < L.length → B L (qpos q L j - 1) = q
  | n, j, hn, hlt, hm => by
    have hj : j < L.length := by
      rcases Nat.lt_or_ge j L.length with h | h
      · exact h
      · rw [qpos_end h] at hm; omega
    match n, hn with
    | 0, hn => omega
    | n + 1, hn =>
      by_cases h1 : (q == 34 && B L j == 92) = true
      · have hq : q = 34 := by simp at h1; exact h1.1
        have hq2 : (B L j == 92) = true := by simp at h1; simp [h1.2]
        subst hq
        rw [qpos_esc hj hq2] at hlt hm ⊢
        rcases Nat.lt_or_ge (j + 2) L.length with h | h
        · by_cases he : j + 2 < qpos 34 L (j + 2)
          · exact qpos_last 34 L n (j + 2) (by omega) he hm
          · have := qpos_pos 34 L (j + 2) h; omega
        · rw [qpos_end h] at hm; omega
      · have h1' : (q == 34 && B L j == 92) = false := by simpa using h1
        by_cases h2 : (B L j == q) = true
        · by_cases h3 : q = 39 ∧ j + 1 < L.length ∧ (B L (j + 1) == 39) = true
          · obtain ⟨hq, hk1, hb1⟩ := h3
            subst hq
            rw [qpos_dbl hk1 h2 hb1] at hlt hm ⊢
            rcases Nat.lt_or_ge (j + 2) L.length with h | h
            · have := qpos_pos 39 L (j + 2) h
              exact qpos_last 39 L n (j + 2) (by omega) this hm
            · rw [qpos_end h] at hm; omega
          · have hh : qpos q L j = j + 1 := qpos_hit hj h1' h2 (fun hq hk1 => by
              cases hx : (B L (j + 1) == 39) with
              | false => rfl
              | true => exact absurd ⟨hq, hk1, hx⟩ h3)
            rw [hh, Nat.add_sub_cancel]
            simpa using h2
        · have h2' : (B L j == q) = false := by simpa using h2
          rw [qpos_go hj h1' h2'] at hlt hm ⊢
          rcases Nat.lt_or_ge (j + 1) L.length with h | h
          · exact qpos_last q L n (j + 1) (by omega) (qpos_pos q L (j + 1) h) hm
          · rw [qpos_end h] at hm; omega

structure GoodR (L : List Int) (o : Nat) (r : Res) : Prop where
  good : Good L o r.C r.ce
  no : r.ok = false → r.close = 0
  yes : r.ok = true → r.ce ≤ r.close ∧ r.close < L.length ∧ isCl (B L r.close) = true ∧ isWs (B L (r.ce - 1)) = false

theorem run_good (L : List Int) (o : Nat) : ∀ (f : Nat) (s : St), Good L o s.C s.ce → 1 ≤ s.ce → s.ce ≤ s.k → s.k ≤ L.length → (s.k < L.length → isWs (B L (s.ce - 1)) = false) → GoodR L o (run L f s)
  | 0, s, h, _, _, _, _ => ⟨h, fun _ => rfl, fun h => by simp [run] at h⟩
  | f + 1, s, h, h1, hce, hk, hws => by
    unfold run
    by_cases hl : L.length ≤ s.k
    · rw [if_pos hl]
      exact ⟨h, fun _ => rfl, fun h => by cases h⟩
    · rw [if_neg hl]
      by_cases he : ends L s = true
      · rw [if_pos he]
        refine ⟨h, fun h => (by cases h), fun _ => ⟨hce, by simp only; omega, ?_, hws (by omega)⟩⟩
        unfold ends at he
        simp only [Bool.and_eq_true] at he
        exact he.1.2
      · rw [if_neg he]
        have hn := next_lt L s (by omega)
        have key : Good L o (next L s).C (next L s).ce ∧ 1 ≤ (next L s).ce ∧ (next L s).ce ≤ (next L s).k ∧ ((next L s).k < L.length → isWs (B L ((next L s).ce - 1)) = false) := by
          unfold next at hn ⊢
          by_cases c1 : isWs (B L s.k) = true
          · rw [if_pos c1] at hn ⊢
            exact ⟨h, h1, by simp only; omega, fun _ => hws (by omega)⟩
          rw [if_neg c1] at hn ⊢
          have c1' : isWs (B L s.k) = false := by simpa using c1
          by_cases c2 : isCom L s.k = true
          · rw [if_pos c2] at hn ⊢
            simp only at hn
            exact ⟨h, h1, by simp only; omega, fun _ => hws (by omega)⟩
          rw [if_neg c2] at hn ⊢
          by_cases c3 : isQ L s = true
          · rw [if_pos c3] at hn ⊢
            simp only [put] at hn ⊢
            refine ⟨h.put (by omega) (by omega), by omega, Nat.le_refl _, fun hlt => ?_⟩
            have hlast : B L (qe L s.k - 1) = B L s.k := by
              unfold qe at hn hlt ⊢
              have hs1 : s.k + 1 < qpos (B L s.k) L (s.k + 1) := by
                rcases Nat.lt_or_ge (s.k + 1) L.length with h | h
                · exact qpos_pos _ L (s.k + 1) h
                · rw [qpos_end h] at hlt; omega
              exact qpos_last (B L s.k) L _ (s.k + 1) (Nat.le_refl _) hs1 hlt
            rw [hlast]; exact c1'
          rw [if_neg c3] at hn ⊢
          by_cases c4 : isOp (B L s.k) = true
          · rw [if_pos c4]
            simp only [put]
            exact ⟨h.put (by omega) (by omega), by omega, Nat.le_refl _, fun _ => by rw [Nat.add_sub_cancel]; exact c1'⟩
          rw [if_neg c4]
          by_cases c5 : isCl (B L s.k) = true
          · rw [if_pos c5]
            simp only [put]
            exact ⟨h.put (by omega) (by omega), by omega, Nat.le_refl _, fun _ => by rw [Nat.add_sub_cancel]; exact c1'⟩
          rw [if_neg c5]
          by_cases c6 : (B L s.k == 44 && s.d == 1) = true
          · rw [if_pos c6]
            simp only [put]
            have hb : B L s.k = 44 := by simp at c6; exact c6.1
            exact ⟨h.snoc hce (by omega) hb, by omega, Nat.le_refl _, fun _ => by rw [Nat.add_sub_cancel]; exact c1'⟩
          rw [if_neg c6]
          simp only [put]
          exact ⟨h.put (by omega) (by omega), by omega, Nat.le_refl _, fun _ => by rw [Nat.add_sub_cancel]; exact c1'⟩
        obtain ⟨k1, k2, k3, k4⟩ := key
        exact run_good L o f (next L s) k1 k2 k3 hn.2 k4

theorem scan_good (L : List Int) (o : Nat) (ho : o < L.length) (h0 : B L o = 91 ∨ B L o = 123) : GoodR L o (scan L o) := by
  unfold scan
  have hN := n_op (L := L) (k := o) (d := 0) (pv := 0) (C := []) (ce := 0) h0
  obtain ⟨g, hg, hr⟩ := run_next L (L.length - o) ⟨o, 0, 0, [], 0⟩ ho (Nat.le_refl _) hN.1
  rw [hr, hN.2]
  refine run_good L o g _ ⟨fun i hi => (by simp at hi), by simp [P], ho⟩ (by simp) (Nat.le_refl _) (by simp only; omega) (fun _ => ?_)
  simp only [Nat.add_sub_cancel]
  rcases h0 with h | h <;> rw [h] <;> decide
end Go.Proofs.Qxb6602278a
