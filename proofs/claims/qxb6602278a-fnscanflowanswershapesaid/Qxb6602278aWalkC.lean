import Derived.Test.Qxb6602278aWalkB
namespace Go.Proofs.Qxb6602278a
open Go.RowKit

theorem isPre_of {c : Int} (h0 : 0 ≤ c) (h1 : c ≤ 255) (h : 0 ≤ preI c) : Sf.isPre c = true := by rw [← preI_eq c h0 h1]; exact decide_eq_true h
theorem notPre_of {c : Int} (h0 : 0 ≤ c) (h1 : c ≤ 255) (h : preI c < 0) : Sf.isPre c = false := by rw [← preI_eq c h0 h1]; exact decide_eq_false (by omega)
theorem isWs_of {c : Int} (h0 : 0 ≤ c) (h1 : c ≤ 255) (h : 0 ≤ wsI c) : Sf.isWs c = true := by rw [← wsI_eq c h0 h1]; exact decide_eq_true h
theorem notWs_of {c : Int} (h0 : 0 ≤ c) (h1 : c ≤ 255) (h : wsI c < 0) : Sf.isWs c = false := by rw [← wsI_eq c h0 h1]; exact decide_eq_false (by omega)

theorem skip_go {L : List Int} {j : Nat} (h : j < L.length) (hn : Sf.isNl (Sf.B L j) = false) : Sf.skip L j = Sf.skip L (j + 1) := by
  unfold Sf.skip
  rw [drop_B L j h]
  conv => lhs; unfold Sf.skipLen
  rw [if_neg (by rw [hn]; simp)]
  omega
theorem skip_stop {L : List Int} {j : Nat} (h : j < L.length) (hn : Sf.isNl (Sf.B L j) = true) : Sf.skip L j = j := by
  unfold Sf.skip
  rw [drop_B L j h]
  unfold Sf.skipLen
  rw [if_pos hn]
  rfl
theorem skip_end {L : List Int} {j : Nat} (h : L.length ≤ j) : Sf.skip L j = j := by
  unfold Sf.skip
  rw [List.drop_of_length_le h]
  rfl
theorem nl_two {c : Int} (h : (c != 10) = true ∧ (c != 13) = true) : Sf.isNl c = false := by simp at h; simp [Sf.isNl, h]
theorem nl_three {c : Int} (h1 : ¬ c = 10) (h : (c != 10) = false ∨ (c != 13) = false) : Sf.isNl c = true := by simp [h1] at h; simp [Sf.isNl, h]
theorem nl_no {c : Int} (h1 : (c == 10) = false) (h2 : (c == 13) = false) : Sf.isNl c = false := by simp [Sf.isNl, h1, h2]

theorem info3 : (Try.prog.info? 3).map (fun i => (i.zero, i.size, i.bytes)) = some (some (.int .i64 0), 1, 8) := by kernel_rfl

set_option maxHeartbeats 4000000 in
set_option maxRecDepth 100000 in
theorem scanFlow_any (b cap : Nat) (L : List Int) (o : Nat) (w : World) (hL : L.length ≤ 1048576) (ho : o < L.length) (hb : b < w.heap.size) (hc : Bytes w b L)
    (hwf : ∀ k, 0 ≤ Sf.B L k ∧ Sf.B L k ≤ 255) :
    Calls Try.prog 22 #[.slice (some ⟨b, 0, none⟩) L.length cap, .int .i64 (o : Int)] w fun e w' => ∃ v,
      e = .returned (.tuple #[.agg #[v, .int .i64 ((Sf.scan L o).close : Int), .int .i64 ((Sf.scan L o).ce : Int)], .bool (Sf.scan L o).ok]) ∧
      w'.ownsRow (w.heap.size + 1) 3 1 v (Sf.scan L o).C.length (vals (Sf.scan L o).C) ∧ Below w.heap.size w w' := by
  obtain ⟨i0, hi, hz0, hz1, hz2⟩ := info_parts info3
  have kc := fun (w : World) (C : Array Value) (n c : Nat) => Lib.run_convert_bytes_const (P := Try.prog) w 25 5 C n c Try.underlying25 Try.underlying5
  go_enter Try.func22, Try.ntmps22
  go_wp2
  go_loopw [6, 7, 8] (fun d pv i wr => Rel L o w d pv i wr) (fun _ _ i _ => L.length - (intOf i).toNat)
  case atStart =>
    refine ⟨o, 0, 0, [], 0, .slice none 0 0, L.length - o, rfl, rfl, rfl, by omega, by omega, by omega, by omega, by omega, by simp, ?_, ?_, ?_, Nat.le_refl _, rfl⟩
    · exact heap_alloc_new w _
    · exact World.ownsRow_nil _ _ _ _
    · exact (Below.refl _ _).alloc (Nat.le_refl _) _
  case round =>
    obtain ⟨k, d, pv, C, ce, v, f, rfl, rfl, rfl, hk, hd1, hd2, hp1, hp2, hCl, hfl, hown, hbel, hf, hrun⟩ := hrel
    obtain ⟨av, cp, rfl⟩ := own_shape hown
    have hcr := hc.later hb hbel
    have hsz : w.heap.size < wr.heap.size := hfl.lt
    have hbw : b < wr.heap.size := by omega
    have hc0 := hfl.c0
    have hc1 := hfl.c1
    have hc2 := hfl.c2
    have hf0 := hfl.fr 0
    have hf1 := hfl.fr 1
    have hf2 := hfl.fr 2
    have HRun : Hid (Sf.run L f ⟨k, d, pv, C, ce⟩ = Sf.scan L o) := hrun
    have HC : Hid (Bytes wr b L) := hcr
    have HFl : Hid (Flow wr w.heap.size (.slice av C.length cp) (.int .i64 0) (.int .i64 (ce : Int))) := hfl
    have HOw : Hid (wr.ownsRow (w.heap.size + 1) 3 1 (.slice av C.length cp) C.length (vals C)) := hown
    have HB : Hid (Below w.heap.size w wr) := hbel
    have Hwf : Hid (∀ k, 0 ≤ Sf.B L k ∧ Sf.B L k ≤ 255) := hwf
    by_cases hlt : k < L.length
    · have hck := hcr k hlt
      have hwk := hwf k
      clear hrun hcr hc hfl hown hbel hwf
      generalize hBk : Sf.B L k = c at *
      have HBk : Hid (Sf.B L k = c) := hBk
      clear hBk
      by_cases h32 : c = 32
      · subst h32
        go_wp2_with fail
        go_roundw
        case rel => exact rel_go (k + 1) d pv C ce hlt hf HRun (n_ws (by rw [HBk.out]; decide)) rfl rfl (by go_num) (by omega) (by omega) hp1 hp2 (by omega) HFl HOw HB
        case measure => simp [intOf]; omega
      by_cases h9 : c = 9
      · subst h9
        go_wp2_with fail
        go_roundw
        case rel => exact rel_go (k + 1) d pv C ce hlt hf HRun (n_ws (by rw [HBk.out]; decide)) rfl rfl (by go_num) (by omega) (by omega) hp1 hp2 (by omega) HFl HOw HB
        case measure => simp [intOf]; omega
      by_cases h13 : c = 13
      · subst h13
        go_wp2_with fail
        go_roundw
        case rel => exact rel_go (k + 1) d pv C ce hlt hf HRun (n_ws (by rw [HBk.out]; decide)) rfl rfl (by go_num) (by omega) (by omega) hp1 hp2 (by omega) HFl HOw HB
        case measure => simp [intOf]; omega
      by_cases h10 : c = 10
      · subst h10
        go_wp2_with fail
        go_roundw
        case rel => exact rel_go (k + 1) d pv C ce hlt hf HRun (n_ws (by rw [HBk.out]; decide)) rfl rfl (by go_num) (by omega) (by omega) hp1 hp2 (by omega) HFl HOw HB
        case measure => simp [intOf]; omega
      by_cases h91 : c = 91
      · subst h91
        go_wp2_with fail
        go_roundw
        case rel => exact rel_go (k + 1) (d + 1) 91 C (k + 1) hlt hf HRun (by have := n_op (d := d) (pv := pv) (C := C) (ce := ce) (.inl HBk); rw [HBk.out] at this; exact this) rfl rfl (by go_num) (by omega) (by omega) (by omega) (by omega) (by omega) (HFl.s2 _) (ownsRow_setCell_below HOw (Nat.lt_succ_self _) _) (HB.setCell (Nat.le_refl _) _)
        case measure => simp [intOf]; omega
      by_cases h123 : c = 123
      · subst h123
        go_wp2_with fail
        go_roundw
        case rel => exact rel_go (k + 1) (d + 1) 123 C (k + 1) hlt hf HRun (by have := n_op (d := d) (pv := pv) (C := C) (ce := ce) (.inr HBk); rw [HBk.out] at this; exact this) rfl rfl (by go_num) (by omega) (by omega) (by omega) (by omega) (by omega) (HFl.s2 _) (ownsRow_setCell_below HOw (Nat.lt_succ_self _) _) (HB.setCell (Nat.le_refl _) _)
        case measure => simp [intOf]; omega
      by_cases h93 : c = 93
      · subst h93
        go_wp2_with fail
        · have hz : d - 1 = 0 := by simpa using ‹(d - 1 == 0) = true›
          have hst := Sf.run_stop L f ⟨k, d, pv, C, ce⟩ hlt hf (n_end (.inl HBk) hz)
          rw [HRun.out] at hst
          have HF := ((((HFl.out.s1 (.int .i64 (k : Int))).s0 (.slice av C.length cp)).s1 (.int .i64 (k : Int))).s2 (.int .i64 (ce : Int)))
          have hq0 := HF.c0
          have hq1 := HF.c1
          have hq2 := HF.c2
          refine bodyPost_ret (v := .tuple #[.agg #[.slice av C.length cp, .int .i64 (k : Int), .int .i64 (ce : Int)], .bool true]) (by simp [results, Try.results22, go_sem, hq0, hq1, hq2]) rfl ⟨.slice av C.length cp, ?_, ?_, ?_⟩
          · rw [hst]
          · rw [hst]
            exact ownsRow_setCell_below (ownsRow_setCell_below (ownsRow_setCell_below (ownsRow_setCell_below HOw (Nat.lt_succ_self _) _) (Nat.lt_succ_self _) _) (Nat.lt_succ_self _) _) (Nat.lt_succ_self _) _
          · exact (((HB.setCell (Nat.le_refl _) _).setCell (Nat.le_refl _) _).setCell (Nat.le_refl _) _).setCell (Nat.le_refl _) _
        · have hz : ¬ d - 1 = 0 := by simpa using ‹(d - 1 == 0) = false›
          go_roundw
          case rel => exact rel_go (k + 1) (d - 1) 93 C (k + 1) hlt hf HRun (by have := n_cl (pv := pv) (C := C) (ce := ce) (.inl HBk) hz; rw [HBk.out] at this; exact this) rfl rfl (by go_num) (by omega) (by omega) (by omega) (by omega) (by omega) (HFl.s2 _) (ownsRow_setCell_below HOw (Nat.lt_succ_self _) _) (HB.setCell (Nat.le_refl _) _)
          case measure => simp [intOf]; omega
      by_cases h125 : c = 125
      · subst h125
        go_wp2_with fail
        · have hz : d - 1 = 0 := by simpa using ‹(d - 1 == 0) = true›
          have hst := Sf.run_stop L f ⟨k, d, pv, C, ce⟩ hlt hf (n_end (.inr HBk) hz)
          rw [HRun.out] at hst
          have HF := ((((HFl.out.s1 (.int .i64 (k : Int))).s0 (.slice av C.length cp)).s1 (.int .i64 (k : Int))).s2 (.int .i64 (ce : Int)))
          have hq0 := HF.c0
          have hq1 := HF.c1
          have hq2 := HF.c2
          refine bodyPost_ret (v := .tuple #[.agg #[.slice av C.length cp, .int .i64 (k : Int), .int .i64 (ce : Int)], .bool true]) (by simp [results, Try.results22, go_sem, hq0, hq1, hq2]) rfl ⟨.slice av C.length cp, ?_, ?_, ?_⟩
          · rw [hst]
          · rw [hst]
            exact ownsRow_setCell_below (ownsRow_setCell_below (ownsRow_setCell_below (ownsRow_setCell_below HOw (Nat.lt_succ_self _) _) (Nat.lt_succ_self _) _) (Nat.lt_succ_self _) _) (Nat.lt_succ_self _) _
          · exact (((HB.setCell (Nat.le_refl _) _).setCell (Nat.le_refl _) _).setCell (Nat.le_refl _) _).setCell (Nat.le_refl _) _
        · have hz : ¬ d - 1 = 0 := by simpa using ‹(d - 1 == 0) = false›
          go_roundw
          case rel => exact rel_go (k + 1) (d - 1) 125 C (k + 1) hlt hf HRun (by have := n_cl (pv := pv) (C := C) (ce := ce) (.inr HBk) hz; rw [HBk.out] at this; exact this) rfl rfl (by go_num) (by omega) (by omega) (by omega) (by omega) (by omega) (HFl.s2 _) (ownsRow_setCell_below HOw (Nat.lt_succ_self _) _) (HB.setCell (Nat.le_refl _) _)
          case measure => simp [intOf]; omega
      by_cases h34 : c = 34
      · subst h34
        have hqb := Sf.qe_bd L k hlt
        have HC' : Hid (Bytes (wr.alloc (.cells #[.int .u8 91, .int .u8 123, .int .u8 44, .int .u8 58, .int .u8 63] 5 (5, 6))) b L) := HC.out.later hbw ((Below.refl _ _).alloc (Nat.le_refl _) _)
        go_wp2_with (first | (go_at_call 27; refine (idx_pre _ _ _ _ (by exact bytes_lit5 _)).mono ?_; rintro e w1 ⟨rfl, hw1⟩; subst w1) | (go_at_call 28; refine (quotedEnd_int _ _ _ _ _ hL hlt HC' (.inl HBk)).mono ?_; rintro e w1 ⟨rfl, hw1⟩; subst w1))
        · have hpr := isPre_of hp1 hp2 ‹_›
          go_roundw
          case rel => exact rel_go (Sf.qe L k) d 34 C (Sf.qe L k) hlt hf HRun (by have := n_q (d := d) (C := C) (ce := ce) (.inl HBk) hpr; rw [HBk.out] at this; exact this) rfl rfl rfl (by omega) (by omega) (by omega) (by omega) (by omega) ((HFl.s2 _).alloc _) ((ownsRow_setCell_below HOw (Nat.lt_succ_self _) _).alloc _) ((HB.setCell (Nat.le_refl _) _).alloc (by simp; omega) _)
          case measure => simp [intOf]; omega
        · have hpr := notPre_of hp1 hp2 ‹_›
          go_roundw
          case rel => exact rel_go (k + 1) d 34 C (k + 1) hlt hf HRun (by have := n_def (L := L) (k := k) (d := d) (pv := pv) (C := C) (ce := ce) (by rw [HBk.out]; decide) (by simp [Sf.isCom, HBk.out]) (by simp [Sf.isQ, hpr]) (by rw [HBk.out]; decide) (by rw [HBk.out]; decide) (by rw [HBk.out]; rfl); rw [HBk.out] at this; exact this) rfl rfl (by go_num) (by omega) (by omega) (by omega) (by omega) (by omega) ((HFl.s2 _).alloc _) ((ownsRow_setCell_below HOw (Nat.lt_succ_self _) _).alloc _) ((HB.setCell (Nat.le_refl _) _).alloc (by simp; omega) _)
          case measure => simp [intOf]; omega
      by_cases h39 : c = 39
      · subst h39
        have hqb := Sf.qe_bd L k hlt
        have HC' : Hid (Bytes (wr.alloc (.cells #[.int .u8 91, .int .u8 123, .int .u8 44, .int .u8 58, .int .u8 63] 5 (5, 6))) b L) := HC.out.later hbw ((Below.refl _ _).alloc (Nat.le_refl _) _)
        go_wp2_with (first | (go_at_call 27; refine (idx_pre _ _ _ _ (by exact bytes_lit5 _)).mono ?_; rintro e w1 ⟨rfl, hw1⟩; subst w1) | (go_at_call 28; refine (quotedEnd_int _ _ _ _ _ hL hlt HC' (.inr HBk)).mono ?_; rintro e w1 ⟨rfl, hw1⟩; subst w1))
        · have hpr := isPre_of hp1 hp2 ‹_›
          go_roundw
          case rel => exact rel_go (Sf.qe L k) d 39 C (Sf.qe L k) hlt hf HRun (by have := n_q (d := d) (C := C) (ce := ce) (.inr HBk) hpr; rw [HBk.out] at this; exact this) rfl rfl rfl (by omega) (by omega) (by omega) (by omega) (by omega) ((HFl.s2 _).alloc _) ((ownsRow_setCell_below HOw (Nat.lt_succ_self _) _).alloc _) ((HB.setCell (Nat.le_refl _) _).alloc (by simp; omega) _)
          case measure => simp [intOf]; omega
        · have hpr := notPre_of hp1 hp2 ‹_›
          go_roundw
          case rel => exact rel_go (k + 1) d 39 C (k + 1) hlt hf HRun (by have := n_def (L := L) (k := k) (d := d) (pv := pv) (C := C) (ce := ce) (by rw [HBk.out]; decide) (by simp [Sf.isCom, HBk.out]) (by simp [Sf.isQ, hpr]) (by rw [HBk.out]; decide) (by rw [HBk.out]; decide) (by rw [HBk.out]; rfl); rw [HBk.out] at this; exact this) rfl rfl (by go_num) (by omega) (by omega) (by omega) (by omega) (by omega) ((HFl.s2 _).alloc _) ((ownsRow_setCell_below HOw (Nat.lt_succ_self _) _).alloc _) ((HB.setCell (Nat.le_refl _) _).alloc (by simp; omega) _)
          case measure => simp [intOf]; omega
      by_cases h44 : c = 44
      · subst h44
        by_cases hd : d = 1
        · subst hd
          have hne : (Value.slice av C.length cp).ownBlock ≠ some w.heap.size := by
            intro h
            have := (HOw.out.lt _ h).1
            omega
          go_wp2_with (at_builtin; refine wpList_append_own _ rfl _ _ 28 rfl (w.heap.size + 1) 3 i0 (.int .i64 0) 1 8 Try.underlying28 hi hz0 hz1 hz2 rfl (by decide) _ _ _ rfl (HOw.out.alloc _) ⟨wr.heap.size, 0, none⟩ 1 1 [.int .i64 (k : Int)] rfl rfl ?c1 ?c2 ?c3 ?c4 ?c5 ?_)
          case c1 =>
            intro j u hj
            match j, hj with
            | 0, hj => simp at hj; subst hj; simp [Addr.add]
          case c2 => intro u hu; simp at hu; subst hu; rfl
          case c3 => unfold maxLen; omega
          case c4 => omega
          case c5 => simp; omega
          · intro v' w1 hown' hgrow _
            obtain ⟨av', cp', hv⟩ := own_shape hown'
            subst hv
            have hF1 := (HFl.out.alloc (.cells #[.int .i64 (k : Int)] 3)).grown hgrow hne
            have hq0 := hF1.c0
            have hq2 := hF1.c2
            have hr0 := hF1.fr 0
            have hr2 := hF1.fr 2
            have HF1 : Hid (Flow w1 w.heap.size (.slice av C.length cp) (.int .i64 0) (.int .i64 (ce : Int))) := hF1
            have HOw1 : Hid (w1.ownsRow (w.heap.size + 1) 3 1 (.slice av' (C.length + 1) cp') (C.length + 1) (vals C ++ [.int .i64 (k : Int)])) := hown'
            have hB1 : Below w.heap.size w w1 := (HB.out.alloc (by omega) _).grown hgrow (by simp; omega) (fun k hk => by have := (HOw.out.lt _ hk).1; omega)
            have HB1 : Hid (Below w.heap.size w w1) := hB1
            clear hown' hgrow hF1 hB1 hne
            go_wp2_with fail
            go_roundw
            case rel => exact rel_go (k + 1) 1 44 (C ++ [k]) (k + 1) hlt hf HRun (by have := n_comma (d := 1) (pv := pv) (C := C) (ce := ce) HBk.out rfl; rw [HBk.out] at this; exact this) rfl rfl (by go_num) (by omega) (by omega) (by omega) (by omega) (by simp; omega) ((HF1.s0 _).s2 _) (by rw [vals_snoc, List.length_append]; exact ownsRow_setCell_below (ownsRow_setCell_below HOw1 (Nat.lt_succ_self _) _) (Nat.lt_succ_self _) _) ((HB1.setCell (Nat.le_refl _) _).setCell (Nat.le_refl _) _)
            case measure => simp [intOf]; omega
        · have hd' : (d == 1) = false := by simpa using hd
          go_wp2_with fail
          go_roundw
          case rel => exact rel_go (k + 1) d 44 C (k + 1) hlt hf HRun (by have := n_def (L := L) (k := k) (d := d) (pv := pv) (C := C) (ce := ce) (by rw [HBk.out]; decide) (by simp [Sf.isCom, HBk.out]) (by simp [Sf.isQ, HBk.out]) (by rw [HBk.out]; decide) (by rw [HBk.out]; decide) (by rw [hd']; simp); rw [HBk.out] at this; exact this) rfl rfl (by go_num) (by omega) (by omega) (by omega) (by omega) (by omega) (HFl.s2 _) (ownsRow_setCell_below HOw (Nat.lt_succ_self _) _) (HB.setCell (Nat.le_refl _) _)
          case measure => simp [intOf]; omega
      by_cases h35 : c = 35
      · subst h35
        cases k with
        | zero =>
          go_wp2_with fail
          go_roundw
          case rel => exact rel_go 1 d 35 C 1 hlt hf HRun (by have := n_def (L := L) (k := 0) (d := d) (pv := pv) (C := C) (ce := ce) (by rw [HBk.out]; decide) (by simp [Sf.isCom]) (by simp [Sf.isQ, HBk.out]) (by rw [HBk.out]; decide) (by rw [HBk.out]; decide) (by rw [HBk.out]; rfl); rw [HBk.out] at this; exact this) rfl rfl (by go_num) (by omega) (by omega) (by omega) (by omega) (by omega) (HFl.s2 _) (ownsRow_setCell_below HOw (Nat.lt_succ_self _) _) (HB.setCell (Nat.le_refl _) _)
          case measure => simp [intOf]; omega
        | succ m =>
          have hcm := HC.out m (by omega)
          have hwm := Hwf.out m
          go_wp2_with (go_at_call 27; refine (idx_ws _ _ _ _ (by exact bytes_lit4 _)).mono ?_; rintro e w1 ⟨rfl, hw1⟩; subst w1)
          · have hws := isWs_of hwm.1 hwm.2 ‹_›
            have hskl := Sf.com_lt L (m + 1) hlt (by simp [Sf.isCom, HBk.out, hws])
            have HN : Hid (Sf.ends L ⟨m + 1, d, pv, C, ce⟩ = false ∧ Sf.next L ⟨m + 1, d, pv, C, ce⟩ = ⟨Sf.skip L (m + 1), d, pv, C, ce⟩) := n_com HBk.out (Nat.succ_pos _) hws
            clear hws
            go_loop [8] (fun i => ∃ j : Nat, m + 1 ≤ j ∧ j ≤ L.length ∧ i = .int .i64 j ∧ Sf.skip L (m + 1) = Sf.skip L j) (fun i => L.length - (intOf i).toNat)
            case atStart => exact ⟨m + 1, by omega, by omega, by go_num, rfl⟩
            case round =>
              obtain ⟨j, hj1, hj2, rfl, hsk⟩ := hrel
              have HSk : Hid (Sf.skip L (m + 1) = Sf.skip L j) := hsk
              clear hsk
              by_cases hjl : j < L.length
              · have hcj := HC.out j hjl
                go_wp2_with fail
                · have hx : Sf.skip L (m + 1) = j := by rw [HSk.out]; exact skip_stop hjl (by rw [‹Sf.B L j = 10›]; rfl)
                  go_roundw
                  case rel => exact rel_go j d pv C ce hlt hf HRun (by have h2 := HN.out; rw [hx] at h2; exact h2) rfl rfl rfl (by omega) (by omega) hp1 hp2 (by omega) (HFl.alloc _) (HOw.out.alloc _) (HB.alloc (by omega) _)
                  case measure => simp [intOf]; omega
                · have hx : Sf.skip L (m + 1) = Sf.skip L (j + 1) := by rw [HSk.out]; exact skip_go hjl (nl_two ‹_›)
                  exact ⟨⟨j + 1, by omega, by omega, by omega, hx⟩, by simp [intOf]; omega⟩
                · have hx : Sf.skip L (m + 1) = j := by rw [HSk.out]; exact skip_stop hjl (nl_three ‹_› ‹_›)
                  go_roundw
                  case rel => exact rel_go j d pv C ce hlt hf HRun (by have h2 := HN.out; rw [hx] at h2; exact h2) rfl rfl rfl (by omega) (by omega) hp1 hp2 (by omega) (HFl.alloc _) (HOw.out.alloc _) (HB.alloc (by omega) _)
                  case measure => simp [intOf]; omega
              · have hx : Sf.skip L (m + 1) = j := by rw [HSk.out]; exact skip_end (by omega)
                have HX : Hid (Sf.skip L (m + 1) = j) := hx
                clear hx
                go_wp2_with fail
                have hx := HX.out
                go_roundw
                case rel => exact rel_go j d pv C ce hlt hf HRun (by have h2 := HN.out; rw [hx] at h2; exact h2) rfl rfl rfl (by omega) (by omega) hp1 hp2 (by omega) (HFl.alloc _) (HOw.out.alloc _) (HB.alloc (by omega) _)
                case measure => simp [intOf]; omega
          · have hws := notWs_of hwm.1 hwm.2 ‹_›
            go_roundw
            case rel => exact rel_go (m + 1 + 1) d 35 C (m + 1 + 1) hlt hf HRun (by have := n_def (L := L) (k := m + 1) (d := d) (pv := pv) (C := C) (ce := ce) (by rw [HBk.out]; decide) (by simp [Sf.isCom, hws]) (by simp [Sf.isQ, HBk.out]) (by rw [HBk.out]; decide) (by rw [HBk.out]; decide) (by rw [HBk.out]; rfl); rw [HBk.out] at this; exact this) rfl rfl (by go_num) (by omega) (by omega) (by omega) (by omega) (by omega) ((HFl.s2 _).alloc _) ((ownsRow_setCell_below HOw (Nat.lt_succ_self _) _).alloc _) ((HB.setCell (Nat.le_refl _) _).alloc (by simp; omega) _)
            case measure => simp [intOf]; omega
      have e32 : (c == 32) = false := by simpa using h32
      have e9 : (c == 9) = false := by simpa using h9
      have e13 : (c == 13) = false := by simpa using h13
      have e10 : (c == 10) = false := by simpa using h10
      have e91 : (c == 91) = false := by simpa using h91
      have e123 : (c == 123) = false := by simpa using h123
      have e93 : (c == 93) = false := by simpa using h93
      have e125 : (c == 125) = false := by simpa using h125
      have e34 : (c == 34) = false := by simpa using h34
      have e39 : (c == 39) = false := by simpa using h39
      have e44 : (c == 44) = false := by simpa using h44
      have e35 : (c == 35) = false := by simpa using h35
      have hN := n_def (L := L) (k := k) (d := d) (pv := pv) (C := C) (ce := ce) (by rw [HBk.out]; simp [Sf.isWs, e32, e9, e13, e10]) (by simp [Sf.isCom, HBk.out, e35]) (by simp [Sf.isQ, HBk.out, e34, e39]) (by rw [HBk.out]; simp [Sf.isOp, e91, e123]) (by rw [HBk.out]; simp [Sf.isCl, e93, e125]) (by rw [HBk.out, e44]; rfl)
      rw [HBk.out] at hN
      have HN : Hid (Sf.ends L ⟨k, d, pv, C, ce⟩ = false ∧ Sf.next L ⟨k, d, pv, C, ce⟩ = ⟨k + 1, d, c, C, k + 1⟩) := hN
      clear hN
      clear h32 h9 h13 h10 h91 h123 h93 h125 h34 h39 h44 h35
      go_wp2_with fail
      go_roundw
      case rel => exact rel_go (k + 1) d c C (k + 1) hlt hf HRun HN.out rfl rfl (by go_num) (by omega) (by omega) (by omega) (by omega) (by omega) (HFl.s2 _) (ownsRow_setCell_below HOw (Nat.lt_succ_self _) _) (HB.setCell (Nat.le_refl _) _)
      case measure => simp [intOf]; omega
    · clear hrun hcr hc hfl hown hbel hwf
      go_wp2_with fail
      have hst := Sf.run_end L f ⟨k, d, pv, C, ce⟩ (by simp only; omega)
      rw [HRun.out] at hst
      have HF := (((HFl.out.s0 (.slice av C.length cp)).s1 (.int .i64 0)).s2 (.int .i64 (ce : Int)))
      have hq0 := HF.c0
      have hq1 := HF.c1
      have hq2 := HF.c2
      refine bodyPost_ret (v := .tuple #[.agg #[.slice av C.length cp, .int .i64 0, .int .i64 (ce : Int)], .bool false]) (by simp [results, Try.results22, go_sem, hq0, hq1, hq2]) rfl ⟨.slice av C.length cp, ?_, ?_, ?_⟩
      · rw [hst]; rfl
      · rw [hst]
        exact ownsRow_setCell_below (ownsRow_setCell_below (ownsRow_setCell_below HOw (Nat.lt_succ_self _) _) (Nat.lt_succ_self _) _) (Nat.lt_succ_self _) _
      · exact ((HB.setCell (Nat.le_refl _) _).setCell (Nat.le_refl _) _).setCell (Nat.le_refl _) _
end Go.Proofs.Qxb6602278a
