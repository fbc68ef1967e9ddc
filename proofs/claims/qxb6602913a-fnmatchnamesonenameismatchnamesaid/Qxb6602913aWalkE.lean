import Derived.Test.Qxb6602913aWalkD
import Derived.Deep.RegionHeld3
namespace Go.Proofs.Qxb6602913a
open Go.RowKit
set_option linter.unusedVariables false

theorem mk47 (w : World) : (Instr.makeSlice 47 (.int .i64 1) (.int .i64 1)).run Try.prog w = .ok (.slice (some ⟨w.heap.size, 0, none⟩) 1 1) (w.alloc (.cells #[.bool false, .slice none 0 0] 51)) := by kernel_rfl

/-- The world once the names' row and the pattern are laid. -/
def made (w : World) : World := (w.alloc (.cells #[.bool false, .slice none 0 0] 51)).alloc (.cells #[.bool false, .bool false, .bool false, .slice (some ⟨w.heap.size, 0, none⟩) 1 1] 49)

/-- The cells that the statement reads or writes. -/
def Kept (w : World) (ba br bs n cr cs : Nat) (ar az : Option Addr) (w' : World) : Prop :=
  w'.cell? ⟨w.heap.size + 1, 3, none⟩ = some (.slice (some ⟨w.heap.size, 0, none⟩) 1 1) ∧ w'.cell? ⟨ba, 0, none⟩ = some (.bool false) ∧ w'.cell? ⟨br, 0, none⟩ = some (.slice ar n cr) ∧ w'.cell? ⟨bs, 0, none⟩ = some (.slice az n cs) ∧
  w'.cell? ⟨w.heap.size, 0, none⟩ = some (.bool false) ∧ w'.cell? ⟨w.heap.size, 1, none⟩ = some (.slice none 0 0) ∧ w'.frozen? ⟨w.heap.size, 0, none⟩ = false ∧ w'.frozen? ⟨w.heap.size, 1, none⟩ = false

theorem made_facts (w : World) {ba br bs n cr cs : Nat} {ar az : Option Addr} (hba : ba < w.heap.size) (hbr : br < w.heap.size) (hbs : bs < w.heap.size)
    (ha : w.cell? ⟨ba, 0, none⟩ = some (.bool false)) (hr : w.cell? ⟨br, 0, none⟩ = some (.slice ar n cr)) (hs : w.cell? ⟨bs, 0, none⟩ = some (.slice az n cs)) : Kept w ba br bs n cr cs ar az (made w) := by
  have hb : Below w.heap.size w (made w) := ((Below.refl _ _).alloc (Nat.le_refl _) _).alloc (by simp) _
  have hA : (made w).heap[w.heap.size]? = some (.cells #[.bool false, .slice none 0 0] 51 (0, 0)) := heap_alloc2_old w _ _
  have hB : (made w).heap[w.heap.size + 1]? = some (.cells #[.bool false, .bool false, .bool false, .slice (some ⟨w.heap.size, 0, none⟩) 1 1] 49 (0, 0)) := heap_alloc2_new w _ _
  refine ⟨?_, (hb.cell (p := ⟨ba, 0, none⟩) hba).trans ha, (hb.cell (p := ⟨br, 0, none⟩) hbr).trans hr, (hb.cell (p := ⟨bs, 0, none⟩) hbs).trans hs, ?_, ?_, ?_, ?_⟩
  · rw [cell_of_row _ _ _ _ _ _ hB]; rfl
  · rw [cell_of_row _ _ _ _ _ _ hA]; rfl
  · rw [cell_of_row _ _ _ _ _ _ hA]; rfl
  · exact frozen_of_row _ _ _ _ _ hA
  · exact frozen_of_row _ _ _ _ _ hA

theorem bm_call {w W : World} {ba br bs rb sb n cr cs : Nat} {ar az : Option Addr} {R : Nat → Bool} {S : Nat → Nat → Int} (hn : n ≤ 4096) (har : n = 0 ∨ ar = some ⟨rb, 0, none⟩) (has : n = 0 ∨ az = some ⟨sb, 0, none⟩)
    (hrb : rb < W.heap.size) (hsb : sb < W.heap.size) (hR : Bs W rb n R) (hS : Ss W sb n S) (hba : ba < W.heap.size) (hbr : br < W.heap.size) (hbs : bs < W.heap.size) (hsz : w.heap.size + 1 < W.heap.size) (hk : Kept w ba br bs n cr cs ar az W) :
    Calls Try.prog 29 #[.slice ar n cr, .slice az n cs] W.drew fun e w3 => e = .returned (.slice (some ⟨W.heap.size, 0, none⟩) n n) ∧ Ms w3 W.heap.size n R S ∧ Below W.heap.size W w3 ∧ Kept w ba br bs n cr cs ar az w3 := by
  refine (byteMatches_any ar az rb sb n cr cs R S W.drew hn har has hrb hsb hR hS).mono ?_
  rintro e w3 ⟨rfl, hm, hb, hlt⟩
  have hb' : Below W.heap.size W w3 := (Below.refl _ W).drew.trans hb
  obtain ⟨k1, k2, k3, k4, k5, k6, k7, k8⟩ := hk
  exact ⟨rfl, hm, hb', (hb'.cell (p := ⟨w.heap.size + 1, 3, none⟩) hsz).trans k1, (hb'.cell (p := ⟨ba, 0, none⟩) hba).trans k2, (hb'.cell (p := ⟨br, 0, none⟩) hbr).trans k3, (hb'.cell (p := ⟨bs, 0, none⟩) hbs).trans k4,
    (hb'.cell (p := ⟨w.heap.size, 0, none⟩) (by show w.heap.size < _; omega)).trans k5, (hb'.cell (p := ⟨w.heap.size, 1, none⟩) (by show w.heap.size < _; omega)).trans k6,
    (hb'.frozen (p := ⟨w.heap.size, 0, none⟩) (by show w.heap.size < _; omega)).trans k7, (hb'.frozen (p := ⟨w.heap.size, 1, none⟩) (by show w.heap.size < _; omega)).trans k8⟩

theorem stored_facts {w w3 : World} {ba br bs n cr cs : Nat} {ar az : Option Addr} (hk : Kept w ba br bs n cr cs ar az w3) (m : Value) :
    ((w3.setCell ⟨w.heap.size, 0, none⟩ (.bool false)).setCell ⟨w.heap.size, 1, none⟩ m).cell? ⟨w.heap.size + 1, 3, none⟩ = some (.slice (some ⟨w.heap.size, 0, none⟩) 1 1) ∧
    ((w3.setCell ⟨w.heap.size, 0, none⟩ (.bool false)).setCell ⟨w.heap.size, 1, none⟩ m).cell? ⟨w.heap.size, 0, none⟩ = some (.bool false) ∧
    ((w3.setCell ⟨w.heap.size, 0, none⟩ (.bool false)).setCell ⟨w.heap.size, 1, none⟩ m).cell? ⟨w.heap.size, 1, none⟩ = some m := by
  obtain ⟨k1, k2, k3, k4, k5, k6, k7, k8⟩ := hk
  refine ⟨?_, ?_, ?_⟩
  · rw [World.cell?_setCell_far _ _ _ _ (by simp), World.cell?_setCell_far _ _ _ _ (by simp)]; exact k1
  · have e : ((w3.setCell ⟨w.heap.size, 0, none⟩ (.bool false)).setCell ⟨w.heap.size, 1, none⟩ m).cell? ⟨w.heap.size, 0, none⟩ = (w3.setCell ⟨w.heap.size, 0, none⟩ (.bool false)).cell? ⟨w.heap.size, 0, none⟩ := by apply World.cell?_setCell_other; simp
    rw [e]
    exact World.cell?_setCell_same' _ _ _ (by rw [k5]; rfl)
  · have e : (w3.setCell ⟨w.heap.size, 0, none⟩ (.bool false)).cell? ⟨w.heap.size, 1, none⟩ = w3.cell? ⟨w.heap.size, 1, none⟩ := by apply World.cell?_setCell_other; simp
    exact World.cell?_setCell_same' _ _ _ (by rw [e, k6]; rfl)

theorem ms_far {w : World} {b n B o : Nat} {R : Nat → Bool} {S : Nat → Nat → Int} {v : Value} (hb : B < b) (h : Ms w b n R S) : Ms (w.setCell ⟨B, o, none⟩ v) b n R S := by
  intro i hi
  obtain ⟨h1, h2⟩ := h i hi
  exact ⟨by rw [World.cell?_setCell_far _ _ _ _ (by show B ≠ b; omega)]; exact h1, fun j hj => by rw [World.cell?_setCell_far _ _ _ _ (by show B ≠ b; omega)]; exact h2 j hj⟩

theorem Path.later {w wX : World} {ap : Option Addr} {qb c : Nat} {xs : List Int} (h : Path w ap qb c xs) (hb : Below w.heap.size w wX) : Path wX ap qb c xs := by
  rcases h with h | ⟨h1, h2, h3, h4, h5⟩
  · exact .inl h
  · exact .inr ⟨h1, h2, h3, Nat.lt_of_lt_of_le h4 hb.size, fun i hi => (hb.cell (p := ⟨qb, 0 + i, none⟩) h4).trans (h5 i hi)⟩

theorem dr_below {B : Nat} {w wX w4 : World} (h : Below B w wX) (hd : Dr wX w4) : Below B w w4 := by
  obtain ⟨k, rfl⟩ := hd
  exact h.trans ⟨rfl, rfl, rfl, Nat.le_refl _, fun _ _ => rfl⟩

set_option maxHeartbeats 2000000 in
set_option maxRecDepth 100000 in
theorem zzNames_any (t : Bool) (ba br bs rb sb qb n cr cs c : Nat) (ar az ap : Option Addr) (R : Nat → Bool) (S : Nat → Nat → Int) (xs : List Int) (w : World) (hn : n ≤ 4096) (hl : xs.length ≤ 4096)
    (hba : ba < w.heap.size) (hbr : br < w.heap.size) (hbs : bs < w.heap.size)
    (ha : w.cell? ⟨ba, 0, none⟩ = some (.bool false)) (hr : w.cell? ⟨br, 0, none⟩ = some (.slice ar n cr)) (hs : w.cell? ⟨bs, 0, none⟩ = some (.slice az n cs))
    (har : n = 0 ∨ ar = some ⟨rb, 0, none⟩) (has : n = 0 ∨ az = some ⟨sb, 0, none⟩) (hrb : rb < w.heap.size) (hsb : sb < w.heap.size) (hR : Bs w rb n R) (hS : Ss w sb n S)
    (hq : Path w ap qb c xs) (hx : ∀ x ∈ xs, 0 ≤ x ∧ x ≤ 255) (ht : (match idx xs with | some _ => false | none => whole R S n xs) = t) :
    Calls Try.prog 23 #[.slice (some ⟨ba, 0, none⟩) 1 1, .slice (some ⟨br, 0, none⟩) 1 1, .slice (some ⟨bs, 0, none⟩) 1 1, .slice ap xs.length c] w fun e w' => e = .returned (.bool t) ∧ Below w.heap.size w w' := by
  have hmk := mk47
  have HAr : Hid (n = 0 ∨ ar = some ⟨rb, 0, none⟩) := har
  have HAs : Hid (n = 0 ∨ az = some ⟨sb, 0, none⟩) := has
  have HR : Hid (Bs w rb n R) := hR
  have HS : Hid (Ss w sb n S) := hS
  have HQ : Hid (Path w ap qb c xs) := hq
  have HX : Hid (∀ x ∈ xs, 0 ≤ x ∧ x ≤ 255) := hx
  have HT : Hid ((match idx xs with | some _ => false | none => whole R S n xs) = t) := ht
  clear har has hR hS hq hx ht
  go_enter Try.func23, Try.ntmps23
  go_wp2
  refine wp_loop_rounds 2 ?_
  rw [rounds_succ]
  go_wp2_with fail
  have hW := made_facts w hba hbr hbs ha hr hs
  have HBel : Hid (Below w.heap.size w (made w)) := ((Below.refl _ _).alloc (Nat.le_refl _) _).alloc (by simp) _
  have hsz : (made w).heap.size = w.heap.size + 1 + 1 := by unfold made; simp
  change Code.wp _ _ _ _ (made w) at *
  generalize made w = W at *
  obtain ⟨k1, k2, k3, k4, k5, k6, k7, k8⟩ := hW
  have HR2 : Hid (Bs W rb n R) := fun i hi => (HBel.out.cell (p := ⟨rb, i, none⟩) hrb).trans (HR.out i hi)
  have HS2 : Hid (Ss W sb n S) := fun i hi j hj => (HBel.out.cell (p := ⟨sb, i * 4 + j, none⟩) hsb).trans (HS.out i hi j hj)
  have HSz : Hid (W.heap.size = w.heap.size + 1 + 1) := hsz
  have hsz1 : w.heap.size + 1 < W.heap.size := by omega
  clear hsz
  have n1 : ¬ ba = w.heap.size := by omega
  have n2 : ¬ br = w.heap.size := by omega
  have n3 : ¬ bs = w.heap.size := by omega
  have n1' : ¬ w.heap.size = ba := by omega
  have n2' : ¬ w.heap.size = br := by omega
  have n3' : ¬ w.heap.size = bs := by omega
  have HC : Hid (Calls Try.prog 29 #[.slice ar n cr, .slice az n cs] W.drew fun e w3 => e = .returned (.slice (some ⟨W.heap.size, 0, none⟩) n n) ∧ Ms w3 W.heap.size n R S ∧ Below W.heap.size W w3 ∧ Kept w ba br bs n cr cs ar az w3) :=
    bm_call hn HAr HAs (by omega) (by omega) HR2 HS2 (by omega) (by omega) (by omega) hsz1 ⟨k1, k2, k3, k4, k5, k6, k7, k8⟩
  go_region_held3 (fun w' => w'.cell? ⟨w.heap.size + 1, 3, none⟩ = some (.slice (some ⟨w.heap.size, 0, none⟩) 1 1) ∧ w'.cell? ⟨ba, 0, none⟩ = some (.bool false) ∧ w'.cell? ⟨br, 0, none⟩ = some (.slice ar n cr) ∧ w'.cell? ⟨bs, 0, none⟩ = some (.slice az n cs)) (go_keep)
    (first | (go_at_call 29; refine HC.out.mono ?_; rintro e w3 ⟨rfl, hm3, hb3, j1, j2, j3, j4, j5, j6, j7, j8⟩))
  have HK3 : Hid (Kept w ba br bs n cr cs ar az w3) := ⟨by assumption, by assumption, by assumption, by assumption, j5, j6, j7, j8⟩
  have HM3 : Hid (Ms w3 W.heap.size n R S) := hm3
  have HB3 : Hid (Below W.heap.size W w3) := hb3
  clear hm3 hb3 HC k1 k2 k3 k4 k5 k6 k7 k8 j1 j2 j3 j4 j5 j6 j7 j8
  go_wp2_with fail
  rw [rounds_succ]
  go_wp2_with fail
  obtain ⟨x1, x2, x3⟩ := stored_facts HK3 (.slice (some ⟨W.heap.size, 0, none⟩) n n)
  have hbel : Below w.heap.size w ((w3.setCell ⟨w.heap.size, 0, none⟩ (.bool false)).setCell ⟨w.heap.size, 1, none⟩ (.slice (some ⟨W.heap.size, 0, none⟩) n n)) :=
    ((HBel.out.trans (HB3.out.mono (by omega))).setCell (Nat.le_refl _) _).setCell (Nat.le_refl _) _
  have hms : Ms ((w3.setCell ⟨w.heap.size, 0, none⟩ (.bool false)).setCell ⟨w.heap.size, 1, none⟩ (.slice (some ⟨W.heap.size, 0, none⟩) n n)) W.heap.size n R S :=
    ms_far (by omega) (ms_far (by omega) HM3)
  have hpath : Path ((w3.setCell ⟨w.heap.size, 0, none⟩ (.bool false)).setCell ⟨w.heap.size, 1, none⟩ (.slice (some ⟨W.heap.size, 0, none⟩) n n)) ap qb c xs := HQ.out.later hbel
  cases hi : idx xs with
  | none =>
    have ht : whole R S n xs = t := by have := HT.out; rw [hi] at this; exact this
    refine (names_none t (w.heap.size + 1) w.heap.size W.heap.size qb n c ap R S xs _ hn hl x1 x2 x3 hms hpath HX hi ht).mono ?_
    rintro e w4 ⟨rfl, hdr⟩
    have HDr : Hid (Below w.heap.size w w4) := dr_below hbel hdr
    clear hdr hbel hms hpath x1 x2 x3 hi ht
    go_wp2_with fail
    go_ret
    exact ⟨rfl, HDr⟩
  | some k =>
    have ht : t = false := by have := HT.out; rw [hi] at this; exact this.symm
    subst ht
    refine (names_some (w.heap.size + 1) w.heap.size W.heap.size qb n c k ap R S xs _ hn hl x1 x2 x3 hms hpath HX hi).mono ?_
    rintro e w4 ⟨rfl, hdr⟩
    have HDr : Hid (Below w.heap.size w w4) := dr_below hbel hdr
    clear hdr hbel hms hpath x1 x2 x3 hi
    go_wp2_with fail
    go_ret
    exact ⟨rfl, HDr⟩
end Go.Proofs.Qxb6602913a
