import Derived.Test.Qxb6602278aWalkC
import Derived.Deep.QuietTactic
import Derived.BigQuiet
import Derived.Lib.SliceRun
namespace Go.Proofs.Qxb6602278a
open Go.RowKit

theorem ownsRow_drewN {w : World} {base : Nat} {e : TypeId} {size : Nat} {v : Value} {n : Nat} {xs : List Value} (h : w.ownsRow base e size v n xs) (m : Nat) : (w.drewN m).ownsRow base e size v n xs := h

theorem below_dn {B : Nat} {a w : World} (h : Below B a w) (n : Nat) : Below B a (w.drewN n) := h.trans ⟨rfl, rfl, rfl, Nat.le_refl _, fun _ _ => rfl⟩

set_option maxHeartbeats 1000000 in
set_option maxRecDepth 100000 in
theorem zzScan_any (b cap : Nat) (L : List Int) (o : Nat) (w : World) (hL : L.length ≤ 1048576) (ho : o < L.length) (hb : b < w.heap.size) (hc : Bytes w b L)
    (hwf : ∀ k, 0 ≤ Sf.B L k ∧ Sf.B L k ≤ 255) :
    Calls Try.prog 15 #[.slice (some ⟨b, 0, none⟩) L.length cap, .int .i64 (o : Int)] w fun e w' => ∃ v,
      e = .returned (.tuple #[v, .int .i64 ((Sf.scan L o).close : Int), .int .i64 ((Sf.scan L o).ce : Int), .bool (Sf.scan L o).ok]) ∧
      w'.ownsRow (w.heap.size + 1) 3 1 v (Sf.scan L o).C.length (vals (Sf.scan L o).C) ∧ Below w.heap.size w w' := by
  go_enter Try.func15, Try.ntmps15
  go_wp2_with fail
  refine (scanFlow_any b cap L o w hL ho hb hc hwf).mono ?_
  rintro e w1 ⟨v, rfl, hown, hbel⟩
  obtain ⟨av, cp, rfl⟩ := own_shape hown
  have HOw : Hid (w1.ownsRow (w.heap.size + 1) 3 1 (.slice av (Sf.scan L o).C.length cp) (Sf.scan L o).C.length (vals (Sf.scan L o).C)) := hown
  have HB : Hid (Below w.heap.size w w1) := hbel
  have HC : Hid (Bytes w b L) := hc
  have Hw : Hid (∀ k, 0 ≤ Sf.B L k ∧ Sf.B L k ≤ 255) := hwf
  clear hown hbel hc hwf
  go_wp2_with fail
  go_quiet (fail)
  go_wp2_with fail
  refine bodyPost_ret (v := .tuple #[.slice av (Sf.scan L o).C.length cp, .int .i64 ((Sf.scan L o).close : Int), .int .i64 ((Sf.scan L o).ce : Int), .bool (Sf.scan L o).ok]) (by simp [results, Try.results15, go_sem]) rfl ⟨.slice av (Sf.scan L o).C.length cp, rfl, ?_, ?_⟩
  · exact ownsRow_drewN (HOw.out.alloc _) _
  · exact below_dn (HB.out.alloc HB.out.size _) _

/-- A slice of bytes that came in: empty, or its elements' cells are known. -/
def Src (w : World) (a : Option Addr) (L : List Int) : Prop :=
  (L = [] ∧ (a = none ∨ ∃ x, a = some x)) ∨ ∃ b off, a = some ⟨b, off, none⟩ ∧ b < w.heap.size ∧ ∀ i, i < L.length → w.cell? ⟨b, off + i, none⟩ = some (.int .u8 (Sf.B L i))

theorem info5 : (Try.prog.info? 5).map (fun i => (i.zero, i.size, i.bytes)) = some (some (.int .u8 0), 1, 1) := by kernel_rfl

set_option maxHeartbeats 1000000 in
set_option maxRecDepth 100000 in
theorem clone_nil (w : World) : Calls Try.prog 14 #[.slice none 0 0] w fun e w' => e = .returned (.slice none 0 0) ∧ w' = w := by
  have hnil := fun wx => Lib.run_eql_slice_nil (P := Try.prog) wx 25 5 none 0 0 0 0 Try.underlying25
  go_enter Try.func14, Try.ntmps14
  go_wp2
  go_ret
  exact ⟨rfl, rfl⟩

set_option maxHeartbeats 1000000 in
set_option maxRecDepth 100000 in
theorem clone_some (x : Addr) (cap : Nat) (L : List Int) (w : World) (hL : L.length ≤ 1048576) (hs : Src w (some x) L) : Calls Try.prog 14 #[.slice (some x) L.length cap] w fun e w' =>
    e = .returned (.slice (some ⟨w.heap.size, 0, none⟩) L.length L.length) ∧ Bytes w' w.heap.size L ∧ Below w.heap.size w w' ∧ w.heap.size < w'.heap.size := by
  have hnil := fun wx => Lib.run_eql_slice_nil (P := Try.prog) wx 25 5 (some x) L.length cap 0 0 Try.underlying25
  obtain ⟨i0, hi, hz0, hz1, hz2⟩ := info_parts info5
  have HS : Hid (Src w (some x) L) := hs
  clear hs
  go_enter Try.func14, Try.ntmps14
  go_wp2_with (at_make; refine wpList_make_full _ rfl _ _ 25 rfl w.heap.size 5 i0 (.int .u8 0) 1 Try.underlying25 hi hz0 hz1 _ _ _ _ L.length rfl rfl rfl rfl ?c1 ?c2 ?c3 ?_)
  case c1 => rw [hz2]; omega
  case c2 => unfold maxLen; omega
  case c3 => exact Nat.le_refl _
  intro w1 hown hgrow
  have hb1 : Below w.heap.size w w1 := (Below.refl _ _).grown hgrow (Nat.le_refl _) (fun k hk => by cases hk)
  have hlt1 : w.heap.size < w1.heap.size := by have := (hown.lt _ rfl).2; exact this
  have HO : Hid (w1.ownsRow w.heap.size 5 1 (.slice (some ⟨w.heap.size, 0, none⟩) L.length L.length) L.length (madeCells #[.int .u8 0] L.length).toList) := hown
  have HB1 : Hid (Below w.heap.size w w1) := hb1
  clear hown hgrow hb1
  go_wp2_with fail
  go_loopw [4] (fun i wr => ∃ (k : Nat) (xs : List Value), k ≤ L.length ∧ i = .int .i64 (k : Int) ∧ wr.ownsRow w.heap.size 5 1 (.slice (some ⟨w.heap.size, 0, none⟩) L.length L.length) L.length xs ∧
      (∀ j, j < k → xs[j]? = some (.int .u8 (Sf.B L j))) ∧ Below w.heap.size w wr) (fun i _ => L.length - (intOf i).toNat)
  case atStart => exact ⟨0, _, Nat.zero_le _, rfl, HO, fun j hj => by omega, HB1⟩
  case round =>
    obtain ⟨k, xs, hk, rfl, hown, hxs, hbel⟩ := hrel
    have HOw : Hid (wr.ownsRow w.heap.size 5 1 (.slice (some ⟨w.heap.size, 0, none⟩) L.length L.length) L.length xs) := hown
    have HX : Hid (∀ j, j < k → xs[j]? = some (.int .u8 (Sf.B L j))) := hxs
    have HB : Hid (Below w.heap.size w wr) := hbel
    by_cases hlt : k < L.length
    · rcases HS.out with ⟨h, _⟩ | ⟨b, off, hx, hb, hcs⟩
      · rw [h] at hlt; simp at hlt
      · have hx' : x = ⟨b, off, none⟩ := by simpa using hx
        have hck : wr.cell? ⟨b, off + k, none⟩ = some (.int .u8 (Sf.B L k)) := (hbel.cell (p := ⟨b, off + k, none⟩) hb).trans (hcs k hlt)
        obtain ⟨u, hdst⟩ : ∃ u, wr.cell? ⟨w.heap.size, k, none⟩ = some u := by
          rw [hown.cellAt k (by omega)]
          exact ⟨_, List.getElem?_eq_getElem (by have := hown.1; omega)⟩
        have hfz := hown.frozenAt k
        subst hx'
        clear hown hxs hbel hcs hx
        go_wp2_with fail
        go_roundw
        case rel =>
          have hst := HOw.out.stored k (.int .u8 (Sf.B L k))
          refine ⟨k + 1, _, by omega, by go_num, hst.1, ?_, HB.out.grown hst.2 HB.out.size (fun j hj => by cases hj; exact Nat.le_refl _)⟩
          intro j hj
          by_cases e : j = k
          · subst e
            rw [List.getElem?_set_self (by have := HOw.out.1; omega)]
          · rw [List.getElem?_set_ne (by omega)]
            exact HX.out j (by omega)
        case measure => simp [intOf]; omega
    · clear hown hxs hbel
      go_wp2_with fail
      go_ret
      refine ⟨rfl, ?_, HB, ?_⟩
      · intro i hi
        rw [HOw.out.cellAt i (by omega)]
        exact HX.out i (by omega)
      · exact (HOw.out.lt _ rfl).2
end Go.Proofs.Qxb6602278a
