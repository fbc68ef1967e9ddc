import Derived.Test.Qxb6602278aWalkF
namespace Go.Proofs.Qxb6602278a
open Go.RowKit

set_option maxHeartbeats 400000 in
theorem isFlow_no (c : Int) (w : World) (h : Sf.isWs c = false) : Calls Try.prog 16 #[.int .u8 c] w fun e w' => e = .returned (.bool false) ∧ w' = w := by
  unfold Sf.isWs at h
  simp only [Bool.or_eq_false_iff] at h
  obtain ⟨⟨⟨h1, h2⟩, h3⟩, h4⟩ := h
  go_enter Try.func16, Try.ntmps16
  go_wp2
  go_ret
  exact ⟨rfl, rfl⟩

set_option maxHeartbeats 400000 in
theorem bytes13 (a : Option Addr) (n c : Nat) (o : Int) (w : World) (h : n ≤ 1048576) : Calls Try.prog 13 #[.slice a n c, .int .i64 o] w fun e w' => e = .returned (.bool true) ∧ w' = w := by
  go_enter Try.func13, Try.ntmps13
  go_wp2
  go_ret
  exact ⟨rfl, rfl⟩
set_option maxHeartbeats 400000 in
theorem bytes13n (a : Option Addr) (n c : Nat) (o : Int) (w : World) (h : ¬ n ≤ 1048576) : Calls Try.prog 13 #[.slice a n c, .int .i64 o] w fun e w' => e = .returned (.bool false) ∧ w' = w := by
  go_enter Try.func13, Try.ntmps13
  go_wp2
  go_ret
  exact ⟨rfl, rfl⟩

theorem zzScan_r (b cap : Nat) (L : List Int) (o : Nat) (C : List Nat) (cl ce : Nat) (ok : Bool) (w : World) (hL : L.length ≤ 1048576) (ho : o < L.length) (hb : b < w.heap.size) (hc : Bytes w b L)
    (hwf : ∀ k, 0 ≤ Sf.B L k ∧ Sf.B L k ≤ 255) (hr : Sf.scan L o = ⟨C, cl, ce, ok⟩) :
    Calls Try.prog 15 #[.slice (some ⟨b, 0, none⟩) L.length cap, .int .i64 (o : Int)] w fun e w' => ∃ av cp,
      e = .returned (.tuple #[.slice av C.length cp, .int .i64 (cl : Int), .int .i64 (ce : Int), .bool ok]) ∧
      w'.ownsRow (w.heap.size + 1) 3 1 (.slice av C.length cp) C.length (vals C) ∧ Below w.heap.size w w' := by
  refine (zzScan_any b cap L o w hL ho hb hc hwf).mono ?_
  rintro e w' ⟨v, rfl, hown, hbel⟩
  rw [hr] at hown ⊢
  obtain ⟨av, cp, rfl⟩ := own_shape hown
  exact ⟨av, cp, rfl, hown, hbel⟩

theorem comma_at {w : World} {base cp k : Nat} {av : Option Addr} {C : List Nat} (h : w.ownsRow base 3 1 (.slice av C.length cp) C.length (vals C)) (hk : k < C.length) :
    ∃ g, av = some ⟨g, 0, none⟩ ∧ w.cell? ⟨g, k, none⟩ = some (.int .i64 (C.getD k 0 : Nat)) := by
  rcases h.2 with ⟨_, h0⟩ | ⟨g, cap, cur, hv, _⟩
  · omega
  · have hv' : av = some ⟨g, 0, none⟩ := by simp at hv; exact hv.1
    subst hv'
    refine ⟨g, rfl, ?_⟩
    rw [h.cellAt k (by omega)]
    unfold vals
    simp [List.getElem?_eq_getElem hk]

theorem P_succ (o : Nat) (C : List Nat) (k : Nat) : P o C (k + 1) = C.getD k 0 := by unfold P; rw [if_neg (by omega), Nat.add_sub_cancel]

set_option maxHeartbeats 4000000 in
set_option maxRecDepth 100000 in
theorem shape_main (a1 : Option Addr) (c1 : Nat) (L1 : List Int) (o : Nat) (C : List Nat) (cl ce : Nat) (ok : Bool) (w : World) (i1 : In w a1 c1 L1)
    (h1 : L1.length ≤ 1048576) (ho : o < L1.length) (hb : Sf.B L1 o = 91 ∨ Sf.B L1 o = 123) (hr : Sf.scan L1 o = ⟨C, cl, ce, ok⟩) :
    Calls Try.prog 5 #[.slice a1 L1.length c1, .int .i64 (o : Int)] w fun e w' => e = .returned (.bool true) ∧ Below w.heap.size w w' := by
  obtain ⟨b, off, rfl, hbw, hcs⟩ : ∃ b off, a1 = some ⟨b, off, none⟩ ∧ b < w.heap.size ∧ ∀ i, i < L1.length → w.cell? ⟨b, off + i, none⟩ = some (.int .u8 (Sf.B L1 i)) := by
    rcases i1.src with ⟨h, _⟩ | h
    · rw [h] at ho; simp at ho
    · exact h
  have hco := hcs o ho
  have hg := scan_good L1 o ho hb
  rw [hr] at hg
  have hgl := hg.good.last
  have hge := hg.good.le
  have hCl := good_len hg.good
  simp only at hgl hge hCl
  have HG : Hid (GoodR L1 o ⟨C, cl, ce, ok⟩) := hg
  have HR : Hid (Sf.scan L1 o = ⟨C, cl, ce, ok⟩) := hr
  have HI1 : Hid (In w (some ⟨b, off, none⟩) c1 L1) := i1
  clear hg hr i1 hcs
  go_enter Try.func5, Try.ntmps5
  go_upto_region 7 with (go_at_call 13; refine (bytes13 _ _ _ _ _ h1).mono ?_; rintro e w1 ⟨rfl, hw1⟩; subst w1)
  go_cut [38] (fun s38 w1 => s38 = .bool false ∧ w1 = w)
  case first =>
    rcases hb with hb | hb
    all_goals
      rw [hb] at hco
      clear hb
      go_wp2_with fail
      go_meet
      case rel => exact ⟨rfl, rfl⟩
  case rest =>
    obtain ⟨rfl, hwc⟩ := hcut
    subst wc
    clear hb hco
    go_wp2_with fail
    refine (clone_any _ c1 L1 w (by omega) HI1).mono ?_
    rintro e w1 ⟨ap1, rfl, hcl1⟩
    obtain ⟨hap1, hby1, hlt1⟩ : ap1 = some ⟨w.heap.size, 0, none⟩ ∧ Bytes w1 w.heap.size L1 ∧ w.heap.size < w1.heap.size := by
      rcases hcl1.cp with h | h
      · rw [h] at ho; simp at ho
      · exact h
    have HB01 : Hid (Below w.heap.size w w1) := hcl1.bel
    have HBy1 : Hid (Bytes w1 w.heap.size L1) := hby1
    clear hcl1 hby1
    subst hap1
    go_wp2_with fail
    refine (zzScan_r w.heap.size L1.length L1 o C cl ce ok w1 h1 ho hlt1 HBy1 HI1.out.wf HR).mono ?_
    rintro e w2 ⟨av, cp, rfl, hown, hbel⟩
    have HOc : Hid (w2.ownsRow (w1.heap.size + 1) 3 1 (.slice av C.length cp) C.length (vals C)) := hown
    have HBy2 : Hid (Bytes w2 w.heap.size L1) := HBy1.out.later hlt1 hbel
    have HB02 : Hid (Below w.heap.size w w2) := HB01.out.trans (hbel.mono (by omega))
    clear hown hbel HBy1 HB01
    go_wp2_with fail
    go_loop [9, 10] (fun l i => ∃ k : Nat, k ≤ C.length ∧ i = .int .i64 (k : Int) ∧ l = .int .i64 ((P o C k : Nat) : Int)) (fun _ i => C.length - (intOf i).toNat)
    case atStart => exact ⟨0, Nat.zero_le _, rfl, rfl⟩
    case round =>
      obtain ⟨k, hk, rfl, rfl⟩ := hrel
      by_cases hlt : k < C.length
      · obtain ⟨g, hav, hq⟩ := comma_at HOc hlt
        obtain ⟨q1, q2, q3⟩ := HG.out.good.com k hlt
        have hps := P_succ o C k
        have hcc := HBy2.out (C.getD k 0) q2
        simp only at q1 q2 q3
        rw [q3] at hcc
        have HPs : Hid (P o C (k + 1) = C.getD k 0) := hps
        clear hps q3
        generalize P o C k = p at q1
        generalize hgc : C.getD k 0 = cc at q1 q2 hq hcc HPs
        have HGc : Hid (C.getD k 0 = cc) := hgc
        clear hgc
        subst hav
        go_wp2_with fail
        go_round
        case rel => exact ⟨k + 1, by omega, by go_num, by rw [HPs.out]⟩
        case measure => simp [intOf]; omega
      · have hkk : k = C.length := by omega
        subst hkk
        cases ok with
        | false =>
          have hcl0 : cl = 0 := HG.out.no rfl
          subst hcl0
          go_wp2_with fail
          go_ret
          exact ⟨rfl, HB02⟩
        | true =>
          obtain ⟨y1, y2, y3, y4⟩ := HG.out.yes rfl
          simp only at y1 y2 y3 y4
          obtain ⟨m, rfl⟩ : ∃ m, ce = m + 1 := ⟨ce - 1, by omega⟩
          rw [Nat.add_sub_cancel] at y4
          have hcm := HBy2.out m (by omega)
          have hcc := HBy2.out cl y2
          have y3' : Sf.B L1 cl = 93 ∨ Sf.B L1 cl = 125 := by simpa [Sf.isCl] using y3
          have Y4 : Hid (Sf.isWs (Sf.B L1 m) = false) := y4
          clear y3 y4
          rcases y3' with h | h
          all_goals
            rw [h] at hcc
            clear h
            go_wp2_with (go_at_call 16; refine (isFlow_no _ _ Y4).mono ?_; rintro e w3 ⟨rfl, hw3⟩; subst w3)
            go_ret
            exact ⟨rfl, HB02⟩

theorem shape_all (a1 : Option Addr) (c1 : Nat) (L1 : List Int) (o : Nat) (w : World) (i1 : In w a1 c1 L1)
    (h1 : L1.length ≤ 1048576) (ho : o < L1.length) (hb : Sf.B L1 o = 91 ∨ Sf.B L1 o = 123) :
    Calls Try.prog 5 #[.slice a1 L1.length c1, .int .i64 (o : Int)] w fun e w' => e = .returned (.bool true) ∧ Below w.heap.size w w' :=
  shape_main a1 c1 L1 o (Sf.scan L1 o).C (Sf.scan L1 o).close (Sf.scan L1 o).ce (Sf.scan L1 o).ok w i1 h1 ho hb rfl
end Go.Proofs.Qxb6602278a
