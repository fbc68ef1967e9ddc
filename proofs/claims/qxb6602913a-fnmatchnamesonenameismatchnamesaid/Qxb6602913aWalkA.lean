import Derived.Test.Qxb6602913aRows
import Derived.Test.Qxb6602913aPlain
import Derived.WalkKit
import Derived.WalkSpells
import Derived.Deep.QuietTactic
import Derived.BigQuiet
namespace Go.Proofs.Qxb6602913a
open Go.RowKit

theorem ret_bool {a b : Bool} (h : a = b) : Ending.returned (.bool a) = .returned (.bool b) := by rw [h]

/-- Bit c % 64 of the word x. -/
def hasV (x : Int) (c : Nat) : Bool := bits BinOp.and IntKind.u64 x (IntKind.u64.wrap (2 ^ (c % 64))) != 0
/-- Does the set S (four words) hold byte c? -/
def hasB (S : Nat → Int) (c : Int) : Bool := hasV (S (c.toNat / 64)) c.toNat

set_option maxHeartbeats 1000000 in
set_option maxRecDepth 100000 in
theorem has_nat (b off : Nat) (S : Nat → Int) (c : Nat) (w : World) (hc : c < 256) (hcell : ∀ j, j < 4 → w.cell? ⟨b, off + j, none⟩ = some (.int .u64 (S j))) :
    Calls Try.prog 32 #[.pointer (some ⟨b, off, none⟩), .int .u8 (c : Int)] w fun e w' => e = .returned (.bool (hasB S c)) ∧ w' = w := by
  have h1 := hcell (c / 64) (by omega)
  have HH : Hid (hasB S c = hasV (S (c / 64)) c) := rfl
  generalize S (c / 64) = x at *
  clear hcell
  go_enter Try.func32, Try.ntmps32
  go_wp2
  go_ret
  exact ⟨ret_bool (by rw [HH.out]; rfl), rfl⟩

theorem has_any (b off : Nat) (S : Nat → Int) (c : Int) (w : World) (h0 : 0 ≤ c) (hc : c ≤ 255) (hcell : ∀ j, j < 4 → w.cell? ⟨b, off + j, none⟩ = some (.int .u64 (S j))) :
    Calls Try.prog 32 #[.pointer (some ⟨b, off, none⟩), .int .u8 c] w fun e w' => e = .returned (.bool (hasB S c)) ∧ w' = w := by
  obtain ⟨n, rfl⟩ := Int.eq_ofNat_of_zero_le h0
  exact has_nat b off S n w (by omega) hcell

/-- The cells of a list of matchers: five a matcher, the run's flag and the set's four words. -/
def Ms (w : World) (b n : Nat) (R : Nat → Bool) (S : Nat → Nat → Int) : Prop :=
  ∀ i, i < n → w.cell? ⟨b, i * 5, none⟩ = some (.bool (R i)) ∧ ∀ j, j < 4 → w.cell? ⟨b, i * 5 + 1 + j, none⟩ = some (.int .u64 (S i j))

/-- The cells of a name. -/
def Nm (w : World) (b o len : Nat) (N : Nat → Int) : Prop := ∀ i, i < len → w.cell? ⟨b, o + i, none⟩ = some (.int .u8 (N i))

/-- The world after some draws. -/
def Dr (w wr : World) : Prop := ∃ k, wr = w.drewN k
theorem Dr.ms {w wr : World} {b n : Nat} {R : Nat → Bool} {S : Nat → Nat → Int} (h : Dr w wr) (hm : Ms w b n R S) : Ms wr b n R S := by obtain ⟨k, rfl⟩ := h; exact hm
theorem Dr.nm {w wr : World} {b o len : Nat} {N : Nat → Int} (h : Dr w wr) (hm : Nm w b o len N) : Nm wr b o len N := by obtain ⟨k, rfl⟩ := h; exact hm
theorem Dr.more {w wr : World} (h : Dr w wr) (m : Nat) : Dr w (wr.drewN m) := by obtain ⟨k, rfl⟩ := h; exact ⟨k + m, by rw [World.drewN_drewN]⟩

theorem mu_at {n len i sA i' sA' : Nat} {x y x' y' : Int} (h : Mn.mu n len i' sA' < Mn.mu n len i sA) (e1 : x' = (i' : Int) ∧ y' = (sA' : Int)) (e2 : x = (i : Int) ∧ y = (sA : Int)) :
    Mn.mu n len (intOf (.int .i64 x')).toNat (intOf (.int .i64 y')).toNat < Mn.mu n len (intOf (.int .i64 x)).toNat (intOf (.int .i64 y)).toNat := by
  rw [e1.1, e1.2, e2.1, e2.2]
  exact h

set_option maxHeartbeats 2000000 in
set_option maxRecDepth 100000 in
theorem matchName_any (am an : Option Addr) (mb nb no n len cm cn : Nat) (R : Nat → Bool) (S : Nat → Nat → Int) (N : Nat → Int) (w : World) (hn : n ≤ 4096) (hl : len ≤ 4096)
    (ham : n = 0 ∨ am = some ⟨mb, 0, none⟩) (han : len = 0 ∨ an = some ⟨nb, no, none⟩) (hm : Ms w mb n R S) (hN : Nm w nb no len N) (hwf : ∀ i, 0 ≤ N i ∧ N i ≤ 255) :
    Calls Try.prog 28 #[.slice am n cm, .slice an len cn] w fun e w' => e = .returned (.bool (Mn.match1 R (fun i a => hasB (S i) (N a)) n len)) ∧ Dr w w' := by
  have HM : Hid (Ms w mb n R S) := hm
  have HN : Hid (Nm w nb no len N) := hN
  have HAm : Hid (n = 0 ∨ am = some ⟨mb, 0, none⟩) := ham
  have HAn : Hid (len = 0 ∨ an = some ⟨nb, no, none⟩) := han
  have HW : Hid (∀ i, 0 ≤ N i ∧ N i ≤ 255) := hwf
  clear hm hN ham han hwf
  generalize hv : Mn.match1 R (fun i a => hasB (S i) (N a)) n len = v
  have HG : Hid (Mn.Go R (fun i a => hasB (S i) (N a)) n len 0 0 0 0 v) := by rw [← hv]; exact Mn.go_start
  clear hv
  go_enter Try.func28, Try.ntmps28
  go_wp2
  go_loopw [5, 6, 7, 8] (fun i a s t wr => ∃ i' a' sp sA : Nat, i = .int .i64 (i' : Int) ∧ a = .int .i64 (a' : Int) ∧ s = .int .i64 ((sp : Int) - 1) ∧ t = .int .i64 (sA : Int) ∧ i' ≤ n ∧ a' ≤ len ∧ sp ≤ n ∧ sA ≤ a' ∧
      Mn.Go R (fun i a => hasB (S i) (N a)) n len i' a' sp sA v ∧ Dr w wr) (fun i _ _ t _ => Mn.mu n len (intOf i).toNat (intOf t).toNat)
  case atStart => exact ⟨0, 0, 0, 0, rfl, rfl, rfl, rfl, Nat.zero_le _, Nat.zero_le _, Nat.zero_le _, Nat.le_refl _, HG, ⟨0, rfl⟩⟩
  case round =>
    obtain ⟨i, a, sp, sA, rfl, rfl, rfl, rfl, hi, ha, hsp, hsA, hg, hdr⟩ := hrel
    have HM' : Hid (Ms wr mb n R S) := hdr.ms HM
    have HN' : Hid (Nm wr nb no len N) := hdr.nm HN
    have HDr : Hid (Dr w wr) := hdr
    clear hdr HM HN
    have HGo : Hid (Mn.Go R (fun i a => hasB (S i) (N a)) n len i a sp sA v) := hg
    clear hg HG
    by_cases hin : i < n
    · have hmi := HM'.out i hin
      have ham : am = some ⟨mb, 0, none⟩ := by rcases HAm.out with h | h; omega; exact h
      subst ham
      obtain ⟨hr, hss⟩ := hmi
      cases hR : R i with
      | true =>
        rw [hR] at hr
        have HR : Hid (R i = true) := hR
        clear hR hss
        have hx := Mn.go_star HGo.out hin HR.out hsA
        have HX : Hid (Mn.Go R (fun i a => hasB (S i) (N a)) n len (i + 1) a (i + 1) a v) := hx
        have HMu : Hid (Mn.mu n len (i + 1) a < Mn.mu n len i sA) := Mn.mu_star hin hsA
        clear hx
        go_wp2_with fail
        go_roundw
        case rel => exact ⟨i + 1, a, i + 1, a, by go_num, rfl, by go_num, rfl, by omega, ha, by omega, Nat.le_refl _, HX, HDr⟩
        case measure => exact mu_at HMu (by omega) (by omega)
      | false =>
        rw [hR] at hr
        have HR : Hid (R i = false) := hR
        clear hR
        by_cases hal : a < len
        · have hna := HN'.out a hal
          have han : an = some ⟨nb, no, none⟩ := by rcases HAn.out with h | h; omega; exact h
          subst han
          have hwa := HW.out a
          cases hhb : hasB (S i) (N a) with
          | true =>
            have hx := Mn.go_hit HGo.out hin HR.out hal hhb
            have HX : Hid (Mn.Go R (fun i a => hasB (S i) (N a)) n len (i + 1) (a + 1) sp sA v) := hx
            have HMu : Hid (Mn.mu n len (i + 1) sA < Mn.mu n len i sA) := Mn.mu_hit hin
            clear hx
            go_wp2_with fail
            go_quiet (first | (go_at_call 32; refine Calls.quiet_of_same (has_any _ _ (S i) _ _ hwa.1 hwa.2 (by simpa using hss))))
            go_wp2_with fail
            go_roundw
            case rel => exact ⟨i + 1, a + 1, sp, sA, by go_num, by go_num, rfl, rfl, by omega, by omega, hsp, by omega, HX, HDr.out.more _⟩
            case measure => exact mu_at HMu (by omega) (by omega)
          | false =>
            have HMs : Hid (Mn.Miss R (fun i a => hasB (S i) (N a)) n len i a) := ⟨by omega, by rw [HR.out]; simp, by simp [hhb]⟩
            by_cases hs0 : sp = 0
            · have hx := Mn.go_no HGo.out HMs.out (.inl hs0)
              subst hs0 hx
              go_wp2_with fail
              go_quiet (first | (go_at_call 32; refine Calls.quiet_of_same (has_any _ _ (S i) _ _ hwa.1 hwa.2 (by simpa using hss))))
              go_wp2_with fail
              go_ret
              exact ⟨rfl, HDr.out.more _⟩
            · by_cases hsl : sA = len
              · have hx := Mn.go_no HGo.out HMs.out (.inr hsl)
                subst hx
                have hb1 : ((sA : Int) == (len : Int)) = true := beq_iff_eq.2 (by omega)
                have HSl : Hid (sA = len) := hsl
                clear hsl
                go_wp2_with fail
                go_quiet (first | (go_at_call 32; refine Calls.quiet_of_same (has_any _ _ (S i) _ _ hwa.1 hwa.2 (by simpa using hss))))
                go_wp2_with fail
                go_ret
                exact ⟨rfl, HDr.out.more _⟩
              · have hx := Mn.go_back HGo.out HMs.out hs0 (by omega)
                have HX : Hid (Mn.Go R (fun i a => hasB (S i) (N a)) n len sp (sA + 1) sp (sA + 1) v) := hx
                have hmu := Mn.mu_back (n := n) (len := len) (sp := sp) (i := i) (sA := sA) (by omega)
                have HMu : Hid (Mn.mu n len sp (sA + 1) < Mn.mu n len i sA) := hmu
                have hb1 : ((sA : Int) == (len : Int)) = false := beq_eq_false_iff_ne.2 (by omega)
                clear hx hmu
                go_wp2_with fail
                go_quiet (first | (go_at_call 32; refine Calls.quiet_of_same (has_any _ _ (S i) _ _ hwa.1 hwa.2 (by simpa using hss))))
                go_wp2_with fail
                go_roundw
                case rel => exact ⟨sp, sA + 1, sp, sA + 1, by go_num, by go_num, rfl, by go_num, hsp, by omega, hsp, Nat.le_refl _, HX, HDr.out.more _⟩
                case measure => exact mu_at HMu (by omega) (by omega)
        · have hda : decide ((a : Int) < (len : Int)) = false := decide_eq_false (by omega)
          have HMs : Hid (Mn.Miss R (fun i a => hasB (S i) (N a)) n len i a) := ⟨by omega, by rw [HR.out]; simp, by omega⟩
          clear hss
          by_cases hs0 : sp = 0
          · have hx := Mn.go_no HGo.out HMs.out (.inl hs0)
            subst hs0 hx
            go_wp2_with fail
            go_quiet (fail)
            go_wp2_with fail
            go_ret
            exact ⟨rfl, HDr.out.more _⟩
          · by_cases hsl : sA = len
            · have hx := Mn.go_no HGo.out HMs.out (.inr hsl)
              subst hx
              have hb1 : ((sA : Int) == (len : Int)) = true := beq_iff_eq.2 (by omega)
              have HSl : Hid (sA = len) := hsl
              clear hsl
              go_wp2_with fail
              go_quiet (fail)
              go_wp2_with fail
              go_ret
              exact ⟨rfl, HDr.out.more _⟩
            · have hx := Mn.go_back HGo.out HMs.out hs0 (by omega)
              have HX : Hid (Mn.Go R (fun i a => hasB (S i) (N a)) n len sp (sA + 1) sp (sA + 1) v) := hx
              have hmu := Mn.mu_back (n := n) (len := len) (sp := sp) (i := i) (sA := sA) (by omega)
              have HMu : Hid (Mn.mu n len sp (sA + 1) < Mn.mu n len i sA) := hmu
              have hb1 : ((sA : Int) == (len : Int)) = false := beq_eq_false_iff_ne.2 (by omega)
              clear hx hmu
              go_wp2_with fail
              go_quiet (fail)
              go_wp2_with fail
              go_roundw
              case rel => exact ⟨sp, sA + 1, sp, sA + 1, by go_num, by go_num, rfl, by go_num, hsp, by omega, hsp, Nat.le_refl _, HX, HDr.out.more _⟩
              case measure => exact mu_at HMu (by omega) (by omega)
    · have hdi : decide ((i : Int) < (n : Int)) = false := decide_eq_false (by omega)
      by_cases hal : a < len
      · have HMs : Hid (Mn.Miss R (fun i a => hasB (S i) (N a)) n len i a) := ⟨by omega, by omega, by omega⟩
        by_cases hs0 : sp = 0
        · have hx := Mn.go_no HGo.out HMs.out (.inl hs0)
          subst hs0 hx
          go_wp2_with fail
          go_quiet (fail)
          go_wp2_with fail
          go_ret
          exact ⟨rfl, HDr.out.more _⟩
        · by_cases hsl : sA = len
          · have hx := Mn.go_no HGo.out HMs.out (.inr hsl)
            subst hx
            have hb1 : ((sA : Int) == (len : Int)) = true := beq_iff_eq.2 (by omega)
            have HSl : Hid (sA = len) := hsl
            clear hsl
            go_wp2_with fail
            go_quiet (fail)
            go_wp2_with fail
            go_ret
            exact ⟨rfl, HDr.out.more _⟩
          · have hx := Mn.go_back HGo.out HMs.out hs0 (by omega)
            have HX : Hid (Mn.Go R (fun i a => hasB (S i) (N a)) n len sp (sA + 1) sp (sA + 1) v) := hx
            have hmu := Mn.mu_back (n := n) (len := len) (sp := sp) (i := i) (sA := sA) (by omega)
            have HMu : Hid (Mn.mu n len sp (sA + 1) < Mn.mu n len i sA) := hmu
            have hb1 : ((sA : Int) == (len : Int)) = false := beq_eq_false_iff_ne.2 (by omega)
            clear hx hmu
            go_wp2_with fail
            go_quiet (fail)
            go_wp2_with fail
            go_roundw
            case rel => exact ⟨sp, sA + 1, sp, sA + 1, by go_num, by go_num, rfl, by go_num, hsp, by omega, hsp, Nat.le_refl _, HX, HDr.out.more _⟩
            case measure => exact mu_at HMu (by omega) (by omega)
      · have hx := Mn.go_end HGo.out (by omega) (by omega)
        subst hx
        go_wp2_with fail
        go_ret
        exact ⟨rfl, HDr⟩
end Go.Proofs.Qxb6602913a
