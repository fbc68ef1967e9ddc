import Derived.Test.Qxb6602913aWalkA
namespace Go.Proofs.Qxb6602913a
open Go.RowKit

/-- The cells of a list of flags; of a list of sets (four words each). -/
def Bs (w : World) (b n : Nat) (R : Nat → Bool) : Prop := ∀ i, i < n → w.cell? ⟨b, i, none⟩ = some (.bool (R i))
def Ss (w : World) (b n : Nat) (S : Nat → Nat → Int) : Prop := ∀ i, i < n → ∀ j, j < 4 → w.cell? ⟨b, i * 4 + j, none⟩ = some (.int .u64 (S i j))

theorem info56 : (Try.prog.info? 56).map (fun i => (i.zero, i.size, i.bytes)) = some (some (.agg #[.bool false, .int .u64 0, .int .u64 0, .int .u64 0, .int .u64 0]), 5, 40) := by kernel_rfl

/-- What the first k matchers hold. -/
def Done (k : Nat) (xs : List Value) (R : Nat → Bool) (S : Nat → Nat → Int) : Prop := ∀ i, i < k → xs[i * 5]? = some (.bool (R i)) ∧ ∀ j, j < 4 → xs[i * 5 + 1 + j]? = some (.int .u64 (S i j))

theorem done_step {k : Nat} {xs : List Value} {R : Nat → Bool} {S : Nat → Nat → Int} (h : Done k xs R S) (hl : k * 5 + 5 ≤ xs.length) :
    Done (k + 1) (((((xs.set (k * 5) (.bool (R k))).set (k * 5 + 1) (.int .u64 (S k 0))).set (k * 5 + 2) (.int .u64 (S k 1))).set (k * 5 + 3) (.int .u64 (S k 2))).set (k * 5 + 4) (.int .u64 (S k 3))) R S := by
  intro i hi
  by_cases e : i = k
  · subst e
    refine ⟨?_, fun j hj => ?_⟩
    · rw [List.getElem?_set_ne (by omega), List.getElem?_set_ne (by omega), List.getElem?_set_ne (by omega), List.getElem?_set_ne (by omega), List.getElem?_set_self (by omega)]
    · match j, hj with
      | 0, _ => rw [List.getElem?_set_ne (by omega), List.getElem?_set_ne (by omega), List.getElem?_set_ne (by omega), Nat.add_zero, List.getElem?_set_self (by simp; omega)]
      | 1, _ => rw [List.getElem?_set_ne (by omega), List.getElem?_set_ne (by omega), List.getElem?_set_self (by simp; omega)]
      | 2, _ => rw [List.getElem?_set_ne (by omega), List.getElem?_set_self (by simp; omega)]
      | 3, _ => rw [List.getElem?_set_self (by simp; omega)]
  · obtain ⟨d1, d2⟩ := h i (by omega)
    refine ⟨?_, fun j hj => ?_⟩
    · rw [List.getElem?_set_ne (by omega), List.getElem?_set_ne (by omega), List.getElem?_set_ne (by omega), List.getElem?_set_ne (by omega), List.getElem?_set_ne (by omega)]; exact d1
    · rw [List.getElem?_set_ne (by omega), List.getElem?_set_ne (by omega), List.getElem?_set_ne (by omega), List.getElem?_set_ne (by omega), List.getElem?_set_ne (by omega)]; exact d2 j hj

set_option maxHeartbeats 2000000 in
set_option maxRecDepth 100000 in
theorem byteMatches_any (ar az : Option Addr) (rb sb n cr cs : Nat) (R : Nat → Bool) (S : Nat → Nat → Int) (w : World) (hn : n ≤ 4096)
    (har : n = 0 ∨ ar = some ⟨rb, 0, none⟩) (has : n = 0 ∨ az = some ⟨sb, 0, none⟩) (hrb : rb < w.heap.size) (hsb : sb < w.heap.size) (hR : Bs w rb n R) (hS : Ss w sb n S) :
    Calls Try.prog 29 #[.slice ar n cr, .slice az n cs] w fun e w' => e = .returned (.slice (some ⟨w.heap.size, 0, none⟩) n n) ∧ Ms w' w.heap.size n R S ∧ Below w.heap.size w w' ∧ w.heap.size < w'.heap.size := by
  obtain ⟨i5, hi, hz0, hz1, hz2⟩ := info_parts info56
  have HR : Hid (Bs w rb n R) := hR
  have HS : Hid (Ss w sb n S) := hS
  have HAr : Hid (n = 0 ∨ ar = some ⟨rb, 0, none⟩) := har
  have HAs : Hid (n = 0 ∨ az = some ⟨sb, 0, none⟩) := has
  clear hR hS har has
  go_enter Try.func29, Try.ntmps29
  go_wp2_with (at_make; refine wpList_make_full _ rfl _ _ 43 rfl w.heap.size 56 i5 (.agg #[.bool false, .int .u64 0, .int .u64 0, .int .u64 0, .int .u64 0]) 5 Try.underlying43 hi hz0 hz1 _ _ _ _ n rfl rfl rfl rfl ?c1 ?c2 ?c3 ?_)
  case c1 => rw [hz2]; omega
  case c2 => unfold maxLen; omega
  case c3 => exact Nat.le_refl _
  intro w1 hown hgrow
  have hb1 : Below w.heap.size w w1 := (Below.refl _ _).grown hgrow (Nat.le_refl _) (fun k hk => by cases hk)
  have HO : Hid (∃ xs, w1.ownsRow w.heap.size 56 5 (.slice (some ⟨w.heap.size, 0, none⟩) n n) n xs) := ⟨_, hown⟩
  have HB1 : Hid (Below w.heap.size w w1) := hb1
  clear hown hgrow hb1
  go_wp2_with fail
  go_loopw [6] (fun i wr => ∃ (k : Nat) (xs : List Value), k ≤ n ∧ i = .int .i64 (k : Int) ∧ wr.ownsRow w.heap.size 56 5 (.slice (some ⟨w.heap.size, 0, none⟩) n n) n xs ∧ Done k xs R S ∧ Below w.heap.size w wr) (fun i _ => n - (intOf i).toNat)
  case atStart =>
    obtain ⟨xs, hx⟩ := HO.out
    exact ⟨0, xs, Nat.zero_le _, rfl, hx, fun i hi => by omega, HB1⟩
  case round =>
    obtain ⟨k, xs, hk, rfl, hown, hdone, hbel⟩ := hrel
    have HOw : Hid (wr.ownsRow w.heap.size 56 5 (.slice (some ⟨w.heap.size, 0, none⟩) n n) n xs) := hown
    have HD : Hid (Done k xs R S) := hdone
    have HB : Hid (Below w.heap.size w wr) := hbel
    by_cases hlt : k < n
    · have har : ar = some ⟨rb, 0, none⟩ := by rcases HAr.out with h | h; omega; exact h
      have has : az = some ⟨sb, 0, none⟩ := by rcases HAs.out with h | h; omega; exact h
      subst har has
      have hr : wr.cell? ⟨rb, k, none⟩ = some (.bool (R k)) := (hbel.cell (p := ⟨rb, k, none⟩) hrb).trans (HR.out k hlt)
      have hs0 : wr.cell? ⟨sb, k * 4, none⟩ = some (.int .u64 (S k 0)) := (hbel.cell (p := ⟨sb, k * 4, none⟩) hsb).trans (HS.out k hlt 0 (by omega))
      have hs1 : wr.cell? ⟨sb, k * 4 + 1, none⟩ = some (.int .u64 (S k 1)) := (hbel.cell (p := ⟨sb, k * 4 + 1, none⟩) hsb).trans (HS.out k hlt 1 (by omega))
      have hs2 : wr.cell? ⟨sb, k * 4 + 1 + 1, none⟩ = some (.int .u64 (S k 2)) := (hbel.cell (p := ⟨sb, k * 4 + 1 + 1, none⟩) hsb).trans (HS.out k hlt 2 (by omega))
      have hs3 : wr.cell? ⟨sb, k * 4 + 1 + 1 + 1, none⟩ = some (.int .u64 (S k 3)) := (hbel.cell (p := ⟨sb, k * 4 + 1 + 1 + 1, none⟩) hsb).trans (HS.out k hlt 3 (by omega))
      have hlen := hown.1
      have hd : ∀ j, j < 5 → ∃ u, wr.cell? ⟨w.heap.size, k * 5 + j, none⟩ = some u := fun j hj => by
        rw [hown.cellAt (k * 5 + j) (by omega)]
        exact ⟨_, List.getElem?_eq_getElem (by omega)⟩
      obtain ⟨u0, hu0⟩ := hd 0 (by omega)
      obtain ⟨u1, hu1⟩ := hd 1 (by omega)
      obtain ⟨u2, hu2⟩ := hd 2 (by omega)
      obtain ⟨u3, hu3⟩ := hd 3 (by omega)
      obtain ⟨u4, hu4⟩ := hd 4 (by omega)
      have hf0 := hown.frozenAt (k * 5)
      have hf1 := hown.frozenAt (k * 5 + 1)
      have hf2 := hown.frozenAt (k * 5 + 2)
      have hf3 := hown.frozenAt (k * 5 + 3)
      have hf4 := hown.frozenAt (k * 5 + 4)
      rw [Nat.add_zero] at hu0
      clear hd hown hdone hbel hlen
      go_wp2_with fail
      go_region
      go_wp2_with fail
      go_roundw
      case rel =>
        have s0 := HOw.out.stored (k * 5) (.bool (R k))
        have s1 := s0.1.stored (k * 5 + 1) (.int .u64 (S k 0))
        have s2 := s1.1.stored (k * 5 + 2) (.int .u64 (S k 1))
        have s3 := s2.1.stored (k * 5 + 3) (.int .u64 (S k 2))
        have s4 := s3.1.stored (k * 5 + 4) (.int .u64 (S k 3))
        exact ⟨k + 1, _, by omega, by go_num, s4.1, done_step HD (by have := HOw.out.1; omega),
          (((((HB.out.setCell (Nat.le_refl _) _).setCell (Nat.le_refl _) _).setCell (Nat.le_refl _) _).setCell (Nat.le_refl _) _).setCell (Nat.le_refl _) _).drew⟩
      case measure => simp [intOf]; omega
    · clear hown hdone hbel
      go_wp2_with fail
      go_ret
      have hkk : k = n := by omega
      subst hkk
      refine ⟨rfl, ?_, HB, (HOw.out.lt _ rfl).2⟩
      intro i hi
      obtain ⟨d1, d2⟩ := HD.out i hi
      refine ⟨?_, fun j hj => ?_⟩
      · rw [HOw.out.cellAt (i * 5) (by omega)]; exact d1
      · rw [HOw.out.cellAt (i * 5 + 1 + j) (by omega)]; exact d2 j hj
end Go.Proofs.Qxb6602913a
