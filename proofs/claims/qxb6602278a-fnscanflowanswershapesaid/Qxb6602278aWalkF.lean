import Derived.Test.Qxb6602278aWalkE
import Derived.Deep.DeepCutAuto
namespace Go.Proofs.Qxb6602278a
open Go.RowKit

theorem In.later {w wX : World} {a : Option Addr} {cap : Nat} {L : List Int} (h : In w a cap L) (hb : Below w.heap.size w wX) : In wX a cap L := by
  refine ⟨?_, h.nil, h.wf, h.len⟩
  rcases h.src with h | ⟨b, off, h1, h2, h3⟩
  · exact .inl h
  · exact .inr ⟨b, off, h1, Nat.lt_of_lt_of_le h2 hb.size, fun i hi => (hb.cell (p := ⟨b, off + i, none⟩) h2).trans (h3 i hi)⟩

def ints (L : List Int) : List Value := L.map fun n : Int => Value.int .u8 n

theorem one_u8 (n : Int) : ∀ u ∈ [Value.int .u8 n], u.oneCell' = true := by
  intro u hu; simp at hu; subst hu; rfl

theorem ints_take (L : List Int) (k : Nat) (h : k < L.length) : ints (L.take (k + 1)) = ints (L.take k) ++ [.int .u8 (Sf.B L k)] := by
  unfold ints
  rw [List.take_succ_eq_append_getElem h, List.map_append]
  simp [Sf.B, List.getElem?_eq_getElem h]

theorem ints_body (L0 L : List Int) (o j : Nat) (h : o + j < L.length) : ints (L0 ++ (L.drop o).take (j + 1)) = ints (L0 ++ (L.drop o).take j) ++ [.int .u8 (Sf.B L (o + j))] := by
  have := ints_take (L.drop o) j (by simp; omega)
  unfold ints at this ⊢
  rw [List.map_append, this, B_drop, List.map_append, List.append_assoc]

theorem bytes_own {w : World} {base g cap m : Nat} {L : List Int} (h : w.ownsRow base 5 1 (.slice (some ⟨g, 0, none⟩) m cap) m (ints L)) (hm : m = L.length) : Bytes w g L := by
  intro i hi
  rw [h.cellAt i (by omega)]
  unfold ints Sf.B
  simp [List.getElem?_eq_getElem hi]

theorem wf_app {A C : List Int} (h1 : ∀ k, 0 ≤ Sf.B A k ∧ Sf.B A k ≤ 255) (h2 : ∀ k, 0 ≤ Sf.B C k ∧ Sf.B C k ≤ 255) : ∀ k, 0 ≤ Sf.B (A ++ C) k ∧ Sf.B (A ++ C) k ≤ 255 := by
  intro k
  by_cases h : k < A.length
  · rw [B_append_left _ _ _ h]; exact h1 k
  · have := B_shift A C (k - A.length)
    rw [show k - A.length + A.length = k by omega] at this
    rw [this]; exact h2 _
theorem wf_body {L : List Int} (h : ∀ k, 0 ≤ Sf.B L k ∧ Sf.B L k ≤ 255) (o : Nat) : ∀ k, 0 ≤ Sf.B (body L o) k ∧ Sf.B (body L o) k ≤ 255 := by
  intro k
  unfold body
  split
  · by_cases hk : k < (own L o).close + 1
    · rw [B_take _ _ _ hk, B_drop]; exact h _
    · have : Sf.B ((L.drop o).take ((own L o).close + 1)) k = 0 := by
        unfold Sf.B
        rw [List.getD_eq_getElem?_getD, List.getElem?_eq_none (by rw [List.length_take]; omega)]
        rfl
      rw [this]; omega
  · rw [B_drop]; exact h _

theorem comma_cell {w : World} {base cp m k : Nat} {av : Option Addr} {C : List Nat} (h : w.ownsRow base 3 1 (.slice av C.length cp) C.length (vals (C.map (· + m)))) (hk : k < C.length) :
    ∃ g, av = some ⟨g, 0, none⟩ ∧ w.cell? ⟨g, k, none⟩ = some (.int .i64 ((C.getD k 0 : Nat) + (m : Int))) := by
  rcases h.2 with ⟨_, h0⟩ | ⟨g, cap, cur, hv, _⟩
  · omega
  · have hv' : av = some ⟨g, 0, none⟩ := by simp at hv; exact hv.1
    subst hv'
    refine ⟨g, rfl, ?_⟩
    rw [h.cellAt k (by omega)]
    unfold vals
    simp [List.getElem?_eq_getElem hk]

theorem good_le {L : List Int} {o : Nat} {C : List Nat} {ce : Nat} (h : Good L o C ce) : ∀ i, i < C.length → i ≤ C.getD i 0
  | 0, _ => Nat.zero_le _
  | i + 1, hi => by
    have h1 := good_le h i (by omega)
    have h2 := (h.com (i + 1) hi).1
    have e : P o C (i + 1) = C.getD i 0 := by unfold P; rw [if_neg (by omega), Nat.add_sub_cancel]
    omega
theorem good_len {L : List Int} {o : Nat} {C : List Nat} {ce : Nat} (h : Good L o C ce) : C.length ≤ L.length := by
  rcases Nat.eq_zero_or_pos C.length with h0 | h0
  · omega
  · have h1 := good_le h (C.length - 1) (by omega)
    have h2 := (h.com (C.length - 1) (by omega)).2.1
    omega

theorem own_bounds (L : List Int) (o : Nat) (ho : o < L.length) (hb : Sf.B L o = 91 ∨ Sf.B L o = 123) :
    (∀ k, k < (own L o).C.length → (own L o).C.getD k 0 + o < L.length) ∧ (own L o).ce + o ≤ L.length ∧ (own L o).C.length ≤ L.length := by
  have hg := scan_good L o ho hb
  rw [scan_own L o ho hb] at hg
  refine ⟨fun k hk => ?_, hg.good.le, by have := good_len hg.good; simpa [shR] using this⟩
  have := (hg.good.com k (by simp [shR]; exact hk)).2.1
  have e : (shR o (own L o)).C.getD k 0 = (own L o).C.getD k 0 + o := by
    simp [shR, List.getElem?_eq_getElem hk]
  rw [e] at this
  exact this

set_option maxHeartbeats 4000000 in
set_option maxRecDepth 100000 in
theorem reads_ok (a0 a1 a3 : Option Addr) (c0 c1 c3 : Nat) (L0 L1 L3 : List Int) (o : Nat) (w : World) (i0 : In w a0 c0 L0) (i1 : In w a1 c1 L1) (i3 : In w a3 c3 L3)
    (h0 : L0.length ≤ 262144) (h1 : L1.length ≤ 262144) (h3 : L3.length ≤ 262144) (ho : o < L1.length) (hb : Sf.B L1 o = 91 ∨ Sf.B L1 o = 123) (hok : (own L1 o).ok = true) :
    Calls Try.prog 6 #[.slice a0 L0.length c0, .slice a1 L1.length c1, .int .i64 (o : Int), .slice a3 L3.length c3] w fun e w' => e = .returned (.bool true) ∧ Below w.heap.size w w' := by
  obtain ⟨b, off, rfl, hbw, hcs⟩ : ∃ b off, a1 = some ⟨b, off, none⟩ ∧ b < w.heap.size ∧ ∀ i, i < L1.length → w.cell? ⟨b, off + i, none⟩ = some (.int .u8 (Sf.B L1 i)) := by
    rcases i1.src with ⟨h, _⟩ | h
    · rw [h] at ho; simp at ho
    · exact h
  have hco := hcs o ho
  have hcl := own_close L1 o hok
  rw [List.length_drop] at hcl
  have hso := scan_own L1 o ho hb
  obtain ⟨hcb, hceb, hCl⟩ := own_bounds L1 o ho hb
  have HCb : Hid (∀ k, k < (own L1 o).C.length → (own L1 o).C.getD k 0 + o < L1.length) := hcb
  clear hcb
  have HSo : Hid (Sf.scan L1 o = shR o (own L1 o)) := hso
  have HOk : Hid ((own L1 o).ok = true) := hok
  have HI0 : Hid (In w a0 c0 L0) := i0
  have HI1 : Hid (In w (some ⟨b, off, none⟩) c1 L1) := i1
  have HI3 : Hid (In w a3 c3 L3) := i3
  have HBr : Hid (Sf.B L1 o = 91 ∨ Sf.B L1 o = 123) := hb
  clear hso hok i0 i1 i3 hcs
  obtain ⟨i5, hi, hz0, hz1, hz2⟩ := info_parts info5
  go_enter Try.func6, Try.ntmps6
  go_upto_region 7 with (go_at_call 17; refine (bytes17 _ _ _ _ _ _ _ _ _ _ _ h0 h1 h3).mono ?_; rintro e w1 ⟨rfl, hw1⟩; subst w1)
  go_cut [62] (fun s62 w1 => s62 = .bool false ∧ w1 = w)
  case first =>
    rcases hb with hb | hb
    all_goals
      rw [hb] at hco
      clear hb
      go_wp2_with fail
      go_meet
      case rel => exact ⟨rfl, rfl⟩
  case rest =>
    obtain ⟨rfl, hwc⟩ := hcut
    subst wc
    clear hb hco
    have hd1 : decide (((own L1 o).close : Int) + (o : Int) < (o : Int)) = false := decide_eq_false (by omega)
    have hd2 : decide ((L1.length : Int) ≤ ((own L1 o).close : Int) + (o : Int)) = false := decide_eq_false (by omega)
    go_wp2_with fail
    refine (clone_any a0 c0 L0 w (by omega) HI0).mono ?_
    rintro e w1 ⟨ap0, rfl, hcl0⟩
    have HCl0 : Hid (Cl w w1 ap0 L0) := hcl0
    clear hcl0
    go_wp2_with fail
    refine (clone_any _ c1 L1 w1 (by omega) (HI1.out.later HCl0.out.bel)).mono ?_
    rintro e w2 ⟨ap1, rfl, hcl1⟩
    obtain ⟨hap1, hby1, hlt1⟩ : ap1 = some ⟨w1.heap.size, 0, none⟩ ∧ Bytes w2 w1.heap.size L1 ∧ w1.heap.size < w2.heap.size := by
      rcases hcl1.cp with h | h
      · rw [h] at ho; simp at ho
      · exact h
    have HB12 : Hid (Below w1.heap.size w1 w2) := hcl1.bel
    have HBy1 : Hid (Bytes w2 w1.heap.size L1) := hby1
    clear hcl1 hby1
    subst hap1
    go_wp2_with fail
    refine (clone_any a3 c3 L3 w2 (by omega) ((HI3.out.later HCl0.out.bel).later HB12)).mono ?_
    rintro e w3 ⟨ap3, rfl, hcl3⟩
    have HCl3 : Hid (Cl w2 w3 ap3 L3) := hcl3
    have hs23 := hcl3.bel.size
    clear hcl3
    go_wp2_with fail
    refine (zzScan_sh w1.heap.size L1.length L1 o o (own L1 o) true ((own L1 o).close + o) w3 (by omega) ho (by omega) (HBy1.out.later hlt1 HCl3.out.bel) HI1.out.wf HSo HOk (by rw [HOk.out]; rfl)).mono ?_
    rintro e w4 ⟨av, cp, rfl, hown, hbel⟩
    have HOc : Hid (w4.ownsRow (w3.heap.size + 1) 3 1 (.slice av (own L1 o).C.length cp) (own L1 o).C.length (vals ((own L1 o).C.map (· + o)))) := hown
    have HB34 : Hid (Below w3.heap.size w3 w4) := hbel
    have hs34 := hbel.size
    clear hown hbel
    have HP0 : Hid (L0 = [] ∨ ap0 = some ⟨w.heap.size, 0, none⟩ ∧ Bytes w4 w.heap.size L0 ∧ w.heap.size < w4.heap.size) := by
      rcases HCl0.out.cp with h | ⟨h1, h2, h3⟩
      · exact .inl h
      · exact .inr ⟨h1, ((h2.later h3 HB12).later (by omega) (HCl3.out.bel)).later (by omega) HB34, by omega⟩
    have HP1 : Hid (Bytes w4 w1.heap.size L1) := (HBy1.out.later hlt1 HCl3.out.bel).later (by omega) HB34
    have HP3 : Hid (L3 = [] ∨ ap3 = some ⟨w2.heap.size, 0, none⟩ ∧ Bytes w4 w2.heap.size L3 ∧ w2.heap.size < w4.heap.size) := by
      rcases HCl3.out.cp with h | ⟨h1, h2, h3⟩
      · exact .inl h
      · exact .inr ⟨h1, h2.later h3 HB34, by omega⟩
    have HB04 : Hid (Below w.heap.size w w4) := (HCl0.out.bel.trans (HB12.out.mono HCl0.out.bel.size)).trans ((HCl3.out.bel.mono (by have := HCl0.out.bel.size; omega)).trans (HB34.out.mono (by have := HCl0.out.bel.size; omega)))
    have hs01 := HCl0.out.bel.size
    clear HCl0 HB12 HBy1 HCl3 HB34
    go_wp2_with (at_make; refine wpList_make_own _ rfl _ _ 25 rfl w4.heap.size 5 i5 (.int .u8 0) 1 Try.underlying25 hi hz0 hz1 _ _ _ (L0.length + L1.length + L3.length) rfl rfl ?m0 ?m1 ?m2 ?m3 ?_)
    case m0 => omega
    case m1 => rw [hz2]; omega
    case m2 => unfold maxLen; omega
    case m3 => exact Nat.le_refl _
    intro w5 hown hgrow
    have HO5 : Hid (w5.ownsRow w4.heap.size 5 1 (.slice (some ⟨w4.heap.size, 0, none⟩) 0 (L0.length + L1.length + L3.length)) 0 []) := hown
    have HB45 : Hid (Below w4.heap.size w4 w5) := (Below.refl _ _).grown hgrow (Nat.le_refl _) (fun k hk => by cases hk)
    clear hown hgrow
    go_wp2_with fail
    clear hd1 hd2
    go_loopw [14, 15] (fun u i wr => ∃ k : Nat, k ≤ L0.length ∧ i = .int .i64 (k : Int) ∧ u = .slice (some ⟨w4.heap.size, 0, none⟩) k (L0.length + L1.length + L3.length) ∧
        wr.ownsRow w4.heap.size 5 1 (.slice (some ⟨w4.heap.size, 0, none⟩) k (L0.length + L1.length + L3.length)) k (ints (L0.take k)) ∧ Below w4.heap.size w4 wr) (fun _ i _ => L0.length - (intOf i).toNat)
    case atStart => exact ⟨0, Nat.zero_le _, rfl, rfl, HO5, HB45⟩
    case round =>
      obtain ⟨k, hk, rfl, rfl, hown, hbel⟩ := hrel
      have HOw : Hid (wr.ownsRow w4.heap.size 5 1 (.slice (some ⟨w4.heap.size, 0, none⟩) k (L0.length + L1.length + L3.length)) k (ints (L0.take k))) := hown
      have HBr4 : Hid (Below w4.heap.size w4 wr) := hbel
      have hs4r := hbel.size
      clear hown hbel
      by_cases hlt : k < L0.length
      · rcases HP0.out with h | ⟨hap, hby, hlt0⟩
        · rw [h] at hlt; simp at hlt
        · have hck := hby.later hlt0 HBr4 k hlt
          clear hby
          subst hap
          go_wp2_with (at_builtin; refine wpList_append_fits _ rfl _ _ 25 rfl w4.heap.size 5 i5 1 Try.underlying25 hi hz1 w4.heap.size k (L0.length + L1.length + L3.length) _ rfl (HOw.out.alloc _) ⟨wr.heap.size, 0, none⟩ 1 1 [.int .u8 (Sf.B L0 k)] rfl rfl (cell_one_new _ _ _) (one_u8 _) (by omega) ?_)
          intro w6 hown' hgrow
          have HOw6 : Hid (w6.ownsRow w4.heap.size 5 1 (.slice (some ⟨w4.heap.size, 0, none⟩) (k + 1) (L0.length + L1.length + L3.length)) (k + 1) (ints (L0.take k) ++ [.int .u8 (Sf.B L0 k)])) := hown'
          have HB6 : Hid (Below w4.heap.size w4 w6) := (HBr4.out.alloc hs4r _).grown hgrow (by simp; omega) (fun k hk => by cases hk; exact Nat.le_refl _)
          clear hown' hgrow
          go_wp2_with fail
          go_roundw
          case rel => exact ⟨k + 1, by omega, by go_num, rfl, by rw [ints_take L0 k hlt]; exact HOw6, HB6⟩
          case measure => simp [intOf]; omega
      · have hkk : k = L0.length := by omega
        subst hkk
        rw [List.take_length] at HOw
        clear HP0 HO5 HB45
        go_wp2_with fail
        go_loopw [14, 16] (fun u i wr => ∃ j : Nat, j ≤ (own L1 o).close + 1 ∧ i = .int .i64 ((o + j : Nat) : Int) ∧ u = .slice (some ⟨w4.heap.size, 0, none⟩) (L0.length + j) (L0.length + L1.length + L3.length) ∧
            wr.ownsRow w4.heap.size 5 1 (.slice (some ⟨w4.heap.size, 0, none⟩) (L0.length + j) (L0.length + L1.length + L3.length)) (L0.length + j) (ints (L0 ++ (L1.drop o).take j)) ∧ Below w4.heap.size w4 wr) (fun _ i _ => L1.length - (intOf i).toNat)
        case atStart => exact ⟨0, Nat.zero_le _, rfl, rfl, by simpa using HOw.out, HBr4⟩
        case round =>
          obtain ⟨j, hj, rfl, rfl, hown, hbel⟩ := hrel
          have HOw2 : Hid (wr.ownsRow w4.heap.size 5 1 (.slice (some ⟨w4.heap.size, 0, none⟩) (L0.length + j) (L0.length + L1.length + L3.length)) (L0.length + j) (ints (L0 ++ (L1.drop o).take j))) := hown
          have HBr5 : Hid (Below w4.heap.size w4 wr) := hbel
          have hs4r2 := hbel.size
          clear hown hbel HOw HBr4
          by_cases hlt : j < (own L1 o).close + 1
          · have hck := HP1.out.later (by omega) HBr5 (o + j) (by omega)
            go_wp2_with (at_builtin; refine wpList_append_fits _ rfl _ _ 25 rfl w4.heap.size 5 i5 1 Try.underlying25 hi hz1 w4.heap.size (L0.length + j) (L0.length + L1.length + L3.length) _ rfl (HOw2.out.alloc _) ⟨wr.heap.size, 0, none⟩ 1 1 [.int .u8 (Sf.B L1 (o + j))] rfl rfl (cell_one_new _ _ _) (one_u8 _) (by omega) ?_)
            intro w6 hown' hgrow
            have HOw6 : Hid (w6.ownsRow w4.heap.size 5 1 (.slice (some ⟨w4.heap.size, 0, none⟩) (L0.length + j + 1) (L0.length + L1.length + L3.length)) (L0.length + j + 1) (ints (L0 ++ (L1.drop o).take j) ++ [.int .u8 (Sf.B L1 (o + j))])) := hown'
            have HB6 : Hid (Below w4.heap.size w4 w6) := (HBr5.out.alloc hs4r2 _).grown hgrow (by simp; omega) (fun k hk => by cases hk; exact Nat.le_refl _)
            clear hown' hgrow
            go_wp2_with fail
            go_roundw
            case rel => exact ⟨j + 1, by omega, by go_num, rfl, by rw [ints_body L0 L1 o j (by omega)]; exact HOw6, HB6⟩
            case measure => simp [intOf]; omega
          · have hjj : j = (own L1 o).close + 1 := by omega
            subst hjj
            have HOw3 : Hid (wr.ownsRow w4.heap.size 5 1 (.slice (some ⟨w4.heap.size, 0, none⟩) (L0.length + ((own L1 o).close + 1)) (L0.length + L1.length + L3.length)) (L0.length + ((own L1 o).close + 1)) (ints (L0 ++ body L1 o))) := by
              have e : body L1 o = (L1.drop o).take ((own L1 o).close + 1) := by unfold body; rw [if_pos HOk.out]
              rw [e]; exact HOw2
            clear HOw2 HP1
            go_wp2_with fail
            go_loopw [14, 17] (fun u i wr => ∃ k : Nat, k ≤ L3.length ∧ i = .int .i64 (k : Int) ∧ u = .slice (some ⟨w4.heap.size, 0, none⟩) (L0.length + ((own L1 o).close + 1) + k) (L0.length + L1.length + L3.length) ∧
                wr.ownsRow w4.heap.size 5 1 (.slice (some ⟨w4.heap.size, 0, none⟩) (L0.length + ((own L1 o).close + 1) + k) (L0.length + L1.length + L3.length)) (L0.length + ((own L1 o).close + 1) + k) (ints (L0 ++ body L1 o) ++ ints (L3.take k)) ∧ Below w4.heap.size w4 wr) (fun _ i _ => L3.length - (intOf i).toNat)
            case atStart => exact ⟨0, Nat.zero_le _, rfl, rfl, by simpa [ints] using HOw3.out, HBr5⟩
            case round =>
              obtain ⟨k, hk, rfl, rfl, hown, hbel⟩ := hrel
              have HOw4 : Hid (wr.ownsRow w4.heap.size 5 1 (.slice (some ⟨w4.heap.size, 0, none⟩) (L0.length + ((own L1 o).close + 1) + k) (L0.length + L1.length + L3.length)) (L0.length + ((own L1 o).close + 1) + k) (ints (L0 ++ body L1 o) ++ ints (L3.take k))) := hown
              have HBr6 : Hid (Below w4.heap.size w4 wr) := hbel
              have hs4r3 := hbel.size
              clear hown hbel HOw3 HBr5
              by_cases hlt3 : k < L3.length
              · rcases HP3.out with h | ⟨hap, hby, hlt0⟩
                · rw [h] at hlt3; simp at hlt3
                · have hck := hby.later hlt0 HBr6 k hlt3
                  clear hby
                  subst hap
                  go_wp2_with (at_builtin; refine wpList_append_fits _ rfl _ _ 25 rfl w4.heap.size 5 i5 1 Try.underlying25 hi hz1 w4.heap.size (L0.length + ((own L1 o).close + 1) + k) (L0.length + L1.length + L3.length) _ rfl (HOw4.out.alloc _) ⟨wr.heap.size, 0, none⟩ 1 1 [.int .u8 (Sf.B L3 k)] rfl rfl (cell_one_new _ _ _) (one_u8 _) (by omega) ?_)
                  intro w6 hown' hgrow
                  have HOw6 : Hid (w6.ownsRow w4.heap.size 5 1 (.slice (some ⟨w4.heap.size, 0, none⟩) (L0.length + ((own L1 o).close + 1) + k + 1) (L0.length + L1.length + L3.length)) (L0.length + ((own L1 o).close + 1) + k + 1) (ints (L0 ++ body L1 o) ++ (ints (L3.take k) ++ [.int .u8 (Sf.B L3 k)]))) := hown'
                  have HB6 : Hid (Below w4.heap.size w4 w6) := (HBr6.out.alloc hs4r3 _).grown hgrow (by simp; omega) (fun k hk => by cases hk; exact Nat.le_refl _)
                  clear hown' hgrow
                  go_wp2_with fail
                  go_roundw
                  case rel =>
                    repeat apply Exists.intro
                    exact ⟨⟨k + 1, by omega, by go_num, rfl, by rw [ints_take L3 k hlt3]; exact HOw6, HB6⟩, rfl⟩
                  case measure => simp [intOf]; omega
              · have hkk : k = L3.length := by omega
                subst hkk
                rw [List.take_length] at HOw4
                clear HP3
                go_wp2_with fail
                have hbl : (body L1 o).length = (own L1 o).close + 1 := by unfold body; rw [if_pos HOk.out, List.length_take, List.length_drop]; omega
                have hre : rest L1 o L3 = L3 := by unfold rest; rw [if_pos HOk.out]
                have hbyU : Bytes wr w4.heap.size (L0 ++ (body L1 o ++ rest L1 o L3)) := bytes_own (by rw [hre, ← List.append_assoc]; simpa [ints] using HOw4.out) (by rw [hre]; simp [hbl]; omega)
                refine (zzScan_m _ w4.heap.size _ (L0 ++ (body L1 o ++ rest L1 o L3)) L0.length L0.length (own L1 o) true ((own L1 o).close + L0.length) wr (by rw [hre]; simp [hbl]; omega) (by rw [hre]; simp [hbl]; omega) (by simp [hbl]; omega) (HOw4.out.lt _ rfl).2 hbyU (wf_app HI0.out.wf (wf_app (wf_body HI1.out.wf o) (by rw [hre]; exact HI3.out.wf))) (scan_again L0 L1 L3 o ho HBr) HOk (by rw [HOk.out]; rfl)).mono ?_
                rintro e w7 ⟨av2, cp2, rfl, hown, hbel⟩
                have HOd : Hid (w7.ownsRow (wr.heap.size + 1) 3 1 (.slice av2 (own L1 o).C.length cp2) (own L1 o).C.length (vals ((own L1 o).C.map (· + L0.length)))) := hown
                have HOc7 : Hid (w7.ownsRow (w3.heap.size + 1) 3 1 (.slice av (own L1 o).C.length cp) (own L1 o).C.length (vals ((own L1 o).C.map (· + o)))) := ownsRow_later (ownsRow_later HOc HBr6) hbel
                have HB7 : Hid (Below w.heap.size w w7) := HB04.out.trans ((HBr6.out.mono HB04.out.size).trans (hbel.mono (by have := HB04.out.size; omega)))
                clear hown hbel hbyU hbl hre HOw4
                have HOd' : Hid (∃ B2, w7.ownsRow B2 3 1 (.slice av2 (own L1 o).C.length cp2) (own L1 o).C.length (vals ((own L1 o).C.map (· + L0.length)))) := ⟨_, HOd⟩
                clear HOd
                obtain ⟨B2, hOd⟩ := HOd'.out
                have HOd : Hid (w7.ownsRow B2 3 1 (.slice av2 (own L1 o).C.length cp2) (own L1 o).C.length (vals ((own L1 o).C.map (· + L0.length)))) := hOd
                clear hOd HOd'
                have hg1 : (((own L1 o).ce : Int) + (L0.length : Int) != ((own L1 o).ce : Int) + (o : Int) + ((L0.length : Int) - (o : Int))) = false := by rw [bne_eq_false_iff_eq]; omega
                have hg2 : (((own L1 o).close : Int) + (L0.length : Int) == ((own L1 o).close : Int) + (o : Int) + ((L0.length : Int) - (o : Int))) = true := by rw [beq_iff_eq]; omega
                go_wp2_with fail
                go_loopw [23] (fun i wr => ∃ k : Nat, k ≤ (own L1 o).C.length ∧ i = .int .i64 (k : Int) ∧ wr.ownsRow B2 3 1 (.slice av2 (own L1 o).C.length cp2) (own L1 o).C.length (vals ((own L1 o).C.map (· + L0.length))) ∧
                    wr.ownsRow (w3.heap.size + 1) 3 1 (.slice av (own L1 o).C.length cp) (own L1 o).C.length (vals ((own L1 o).C.map (· + o))) ∧ Below w.heap.size w wr) (fun i _ => (own L1 o).C.length - (intOf i).toNat)
                case atStart => exact ⟨0, Nat.zero_le _, rfl, HOd, HOc7, HB7⟩
                case round =>
                  obtain ⟨k, hk, rfl, hd, hc, hbel⟩ := hrel
                  have Hd : Hid (wr.ownsRow B2 3 1 (.slice av2 (own L1 o).C.length cp2) (own L1 o).C.length (vals ((own L1 o).C.map (· + L0.length)))) := hd
                  have Hc : Hid (wr.ownsRow (w3.heap.size + 1) 3 1 (.slice av (own L1 o).C.length cp) (own L1 o).C.length (vals ((own L1 o).C.map (· + o)))) := hc
                  have HB8 : Hid (Below w.heap.size w wr) := hbel
                  clear hd hc hbel
                  by_cases hlt4 : k < (own L1 o).C.length
                  · obtain ⟨g2, hav2, hq2⟩ := comma_cell Hd hlt4
                    obtain ⟨g1, hav1, hq1⟩ := comma_cell Hc hlt4
                    have hcb := HCb.out k hlt4
                    generalize (own L1 o).C.getD k 0 = c at hq1 hq2 hcb
                    subst hav1 hav2
                    have hne : ((c : Int) + (L0.length : Int) != (c : Int) + (o : Int) + ((L0.length : Int) - (o : Int))) = false := by rw [bne_eq_false_iff_eq]; omega
                    go_wp2_with fail
                    go_quiet (fail)
                    go_wp2_with fail
                    go_roundw
                    case rel => exact ⟨k + 1, by omega, by go_num, ownsRow_drewN Hd _, ownsRow_drewN Hc _, below_dn HB8 _⟩
                    case measure => simp [intOf]; omega
                  · go_wp2_with fail
                    go_ret
                    exact ⟨rfl, HB8⟩
end Go.Proofs.Qxb6602278a
