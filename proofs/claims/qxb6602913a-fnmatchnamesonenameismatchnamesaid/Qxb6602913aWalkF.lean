import Derived.Test.Qxb6602913aWalkE
import Derived.Lib.SlBuf
import Derived.Lib.SliceRun
import Derived.Laws.CopyOwn
namespace Go.Proofs.Qxb6602913a
open Go.RowKit
set_option linter.unusedVariables false

/-- 'copy' of a whole slice of n elements, k cells each, over a row of the call's own of that size. -/
theorem run_copy_all {P : Program} (w : World) (dT ty elem : TypeId) (g n dCap sCap k : Nat) (a : Addr) (cur : Array Value) (t : TypeId) (cs : List Value)
    (hu : P.underlying dT = some (.slice elem)) (hs : (P.info? elem).map (·.size) = some k) (hg : w.heap[g]? = some (.cells cur t (0, 0))) (hn : cs.length = n * k) (hc : cur.size = n * k)
    (hsrc : ∀ j v, cs[j]? = some v → w.cell? (a.add j) = some v) (h1 : ∀ v ∈ cs, v.oneCell' = true) :
    (Builtin.copy_ #[dT, dT] ty #[.slice (some ⟨g, 0, none⟩) n dCap, .slice (some a) n sCap]).run P w = .ok (goInt n) (w.setRow g cs.toArray) := by
  have hl := run_loadCells_list (P := P) w a cs hsrc
  have hst := run_storeCells_at P g 0 t cs 0 cur w hg (by omega) h1
  have e : cur.toList.take (0 + 0) ++ cs ++ cur.toList.drop (0 + 0 + cs.length) = cs := by
    rw [List.drop_of_length_le (by simp; omega)]; simp
  rw [e] at hst
  cases hq : P.info? elem with
  | none => simp [hq] at hs
  | some i =>
    have hi : i.size = k := by simpa [hq] using hs
    simp [Builtin.copy_, run_underlying hu, Builtin.lenOf, Builtin.firstCells, sizeOf, typeInfo, hq, hi, ← hn, hl, hst]

theorem setRow_block {w : World} {g : Nat} {cur cs : Array Value} {t : TypeId} (hg : w.heap[g]? = some (.cells cur t (0, 0))) : (w.setRow g cs).heap[g]? = some (.cells cs t (0, 0)) := setRow_heap w g cur cs t _ hg

theorem own_block {w : World} {base g n cap size : Nat} {e : TypeId} {xs : List Value} (h : w.ownsRow base e size (.slice (some ⟨g, 0, none⟩) n cap) n xs) : ∃ cur, w.heap[g]? = some (.cells cur e (0, 0)) ∧ cur.size = cap * size := by
  rcases h.2 with ⟨h0, _⟩ | ⟨g', cap', cur, hv, _, hh, _, _, hsz, _⟩
  · simp at h0
  · simp at hv
    obtain ⟨rfl, rfl⟩ := hv
    exact ⟨cur, hh, hsz⟩

theorem src_later {w w1 : World} {x : Addr} {j : Nat} {v : Value} (hb : Below w.heap.size w w1) (h : w.cell? (x.add j) = some v) : w1.cell? (x.add j) = some v :=
  (hb.cell (World.block_lt_of_cell? w _ h)).trans h

theorem info4 : (Try.prog.info? 4).map (fun i => (i.zero, i.size, i.bytes)) = some (some (.bool false), 1, 1) := by kernel_rfl
theorem info5 : (Try.prog.info? 5).map (fun i => (i.zero, i.size, i.bytes)) = some (some (.int .u8 0), 1, 1) := by kernel_rfl
theorem info34 : (Try.prog.info? 34).map (fun i => (i.zero, i.size, i.bytes)) = some (some (.agg #[.int .u64 0, .int .u64 0, .int .u64 0, .int .u64 0]), 4, 32) := by kernel_rfl

set_option maxHeartbeats 1000000 in
set_option maxRecDepth 100000 in
theorem bools_nil (w : World) : Calls Try.prog 11 #[.slice none 0 0] w fun e w' => e = .returned (.slice none 0 0) ∧ w' = w := by
  have hnil := fun wx => Lib.run_eql_slice_nil (P := Try.prog) wx 23 4 none 0 0 0 0 Try.underlying23
  go_enter Try.func11, Try.ntmps11
  go_wp2
  go_ret
  exact ⟨rfl, rfl⟩

set_option maxHeartbeats 1000000 in
set_option maxRecDepth 100000 in
theorem bools_some (x : Addr) (n cap : Nat) (cs : List Value) (w : World) (hn : n ≤ 4096) (hl : cs.length = n * 1) (hs : ∀ j v, cs[j]? = some v → w.cell? (x.add j) = some v) (h1 : ∀ v ∈ cs, v.oneCell' = true) :
    Calls Try.prog 11 #[.slice (some x) n cap] w fun e w' => e = .returned (.slice (some ⟨w.heap.size, 0, none⟩) n n) ∧ w'.heap[w.heap.size]? = some (.cells cs.toArray 4 (0, 0)) ∧ Below w.heap.size w w' := by
  have hnil := fun wx => Lib.run_eql_slice_nil (P := Try.prog) wx 23 4 (some x) n cap 0 0 Try.underlying23
  obtain ⟨i0, hi, hz0, hz1, hz2⟩ := info_parts info4
  have HS : Hid (∀ j v, cs[j]? = some v → w.cell? (x.add j) = some v) := hs
  have HL : Hid (cs.length = n * 1) := hl
  have H1 : Hid (∀ v ∈ cs, v.oneCell' = true) := h1
  clear hs hl h1
  go_enter Try.func11, Try.ntmps11
  go_wp2_with (at_make; refine wpList_make_full _ rfl _ _ 23 rfl w.heap.size 4 i0 (.bool false) 1 Try.underlying23 hi hz0 hz1 _ _ _ _ n rfl rfl rfl rfl ?c1 ?c2 ?c3 ?_)
  case c1 => rw [hz2]; omega
  case c2 => unfold maxLen; omega
  case c3 => exact Nat.le_refl _
  intro w1 hown hgrow
  obtain ⟨cur, hcur, hsz⟩ := own_block hown
  have hb1 : Below w.heap.size w w1 := (Below.refl _ _).grown hgrow (Nat.le_refl _) (fun k hk => by cases hk)
  have hlt : w.heap.size < w1.heap.size := lt_of_block hcur
  have HR : Hid (∀ ty', (Builtin.copy_ #[23, 23] ty' #[.slice (some ⟨w.heap.size, 0, none⟩) n n, .slice (some x) n cap]).run Try.prog w1 = .ok (goInt n) (w1.setRow w.heap.size cs.toArray)) := fun ty' =>
    run_copy_all w1 23 ty' 4 w.heap.size n n cap 1 x cur 4 cs Try.underlying23 (by rw [hi]; simp [hz1]) hcur HL hsz (fun j v hj => src_later hb1 (HS.out j v hj)) H1
  have HB1 : Hid (Below w.heap.size w (w1.setRow w.heap.size cs.toArray)) := below_setRow hb1 (Nat.le_refl _) _
  have HH : Hid ((w1.setRow w.heap.size cs.toArray).heap[w.heap.size]? = some (.cells cs.toArray 4 (0, 0))) := setRow_block hcur
  clear hown hgrow hb1 hcur hsz hlt HS HL H1
  go_wp2_with (refine Lib.wpList_copy_run _ rfl (.tmp 9) (.tmp 10) 23 23 rfl _ _ rfl rfl (HR.out _) ?_)
  go_ret
  exact ⟨rfl, HH, HB1⟩

set_option maxHeartbeats 1000000 in
set_option maxRecDepth 100000 in
theorem sets_nil (w : World) : Calls Try.prog 14 #[.slice none 0 0] w fun e w' => e = .returned (.slice none 0 0) ∧ w' = w := by
  have hnil := fun wx => Lib.run_eql_slice_nil (P := Try.prog) wx 29 34 none 0 0 0 0 Try.underlying29
  go_enter Try.func14, Try.ntmps14
  go_wp2
  go_ret
  exact ⟨rfl, rfl⟩

set_option maxHeartbeats 1000000 in
set_option maxRecDepth 100000 in
theorem sets_some (x : Addr) (n cap : Nat) (cs : List Value) (w : World) (hn : n ≤ 4096) (hl : cs.length = n * 4) (hs : ∀ j v, cs[j]? = some v → w.cell? (x.add j) = some v) (h1 : ∀ v ∈ cs, v.oneCell' = true) :
    Calls Try.prog 14 #[.slice (some x) n cap] w fun e w' => e = .returned (.slice (some ⟨w.heap.size, 0, none⟩) n n) ∧ w'.heap[w.heap.size]? = some (.cells cs.toArray 34 (0, 0)) ∧ Below w.heap.size w w' := by
  have hnil := fun wx => Lib.run_eql_slice_nil (P := Try.prog) wx 29 34 (some x) n cap 0 0 Try.underlying29
  obtain ⟨i0, hi, hz0, hz1, hz2⟩ := info_parts info34
  have HS : Hid (∀ j v, cs[j]? = some v → w.cell? (x.add j) = some v) := hs
  have HL : Hid (cs.length = n * 4) := hl
  have H1 : Hid (∀ v ∈ cs, v.oneCell' = true) := h1
  clear hs hl h1
  go_enter Try.func14, Try.ntmps14
  go_wp2_with (at_make; refine wpList_make_full _ rfl _ _ 29 rfl w.heap.size 34 i0 (.agg #[.int .u64 0, .int .u64 0, .int .u64 0, .int .u64 0]) 4 Try.underlying29 hi hz0 hz1 _ _ _ _ n rfl rfl rfl rfl ?c1 ?c2 ?c3 ?_)
  case c1 => rw [hz2]; omega
  case c2 => unfold maxLen; omega
  case c3 => exact Nat.le_refl _
  intro w1 hown hgrow
  obtain ⟨cur, hcur, hsz⟩ := own_block hown
  have hb1 : Below w.heap.size w w1 := (Below.refl _ _).grown hgrow (Nat.le_refl _) (fun k hk => by cases hk)
  have hlt : w.heap.size < w1.heap.size := lt_of_block hcur
  have HR : Hid (∀ ty', (Builtin.copy_ #[29, 29] ty' #[.slice (some ⟨w.heap.size, 0, none⟩) n n, .slice (some x) n cap]).run Try.prog w1 = .ok (goInt n) (w1.setRow w.heap.size cs.toArray)) := fun ty' =>
    run_copy_all w1 29 ty' 34 w.heap.size n n cap 4 x cur 34 cs Try.underlying29 (by rw [hi]; simp [hz1]) hcur HL hsz (fun j v hj => src_later hb1 (HS.out j v hj)) H1
  have HB1 : Hid (Below w.heap.size w (w1.setRow w.heap.size cs.toArray)) := below_setRow hb1 (Nat.le_refl _) _
  have HH : Hid ((w1.setRow w.heap.size cs.toArray).heap[w.heap.size]? = some (.cells cs.toArray 34 (0, 0))) := setRow_block hcur
  clear hown hgrow hb1 hcur hsz hlt HS HL H1
  go_wp2_with (refine Lib.wpList_copy_run _ rfl (.tmp 9) (.tmp 10) 29 29 rfl _ _ rfl rfl (HR.out _) ?_)
  go_ret
  exact ⟨rfl, HH, HB1⟩

set_option maxHeartbeats 1000000 in
set_option maxRecDepth 100000 in
theorem bytes_nil (w : World) : Calls Try.prog 10 #[.slice none 0 0] w fun e w' => e = .returned (.slice none 0 0) ∧ w' = w := by
  have hnil := fun wx => Lib.run_eql_slice_nil (P := Try.prog) wx 22 5 none 0 0 0 0 Try.underlying22
  go_enter Try.func10, Try.ntmps10
  go_wp2
  go_ret
  exact ⟨rfl, rfl⟩

set_option maxHeartbeats 1000000 in
set_option maxRecDepth 100000 in
theorem bytes_some (x : Addr) (n cap : Nat) (cs : List Value) (w : World) (hn : n ≤ 4096) (hl : cs.length = n * 1) (hs : ∀ j v, cs[j]? = some v → w.cell? (x.add j) = some v) (h1 : ∀ v ∈ cs, v.oneCell' = true) :
    Calls Try.prog 10 #[.slice (some x) n cap] w fun e w' => e = .returned (.slice (some ⟨w.heap.size, 0, none⟩) n n) ∧ w'.heap[w.heap.size]? = some (.cells cs.toArray 5 (0, 0)) ∧ Below w.heap.size w w' := by
  have hnil := fun wx => Lib.run_eql_slice_nil (P := Try.prog) wx 22 5 (some x) n cap 0 0 Try.underlying22
  obtain ⟨i0, hi, hz0, hz1, hz2⟩ := info_parts info5
  have HS : Hid (∀ j v, cs[j]? = some v → w.cell? (x.add j) = some v) := hs
  have HL : Hid (cs.length = n * 1) := hl
  have H1 : Hid (∀ v ∈ cs, v.oneCell' = true) := h1
  clear hs hl h1
  go_enter Try.func10, Try.ntmps10
  go_wp2_with (at_make; refine wpList_make_full _ rfl _ _ 22 rfl w.heap.size 5 i0 (.int .u8 0) 1 Try.underlying22 hi hz0 hz1 _ _ _ _ n rfl rfl rfl rfl ?c1 ?c2 ?c3 ?_)
  case c1 => rw [hz2]; omega
  case c2 => unfold maxLen; omega
  case c3 => exact Nat.le_refl _
  intro w1 hown hgrow
  obtain ⟨cur, hcur, hsz⟩ := own_block hown
  have hb1 : Below w.heap.size w w1 := (Below.refl _ _).grown hgrow (Nat.le_refl _) (fun k hk => by cases hk)
  have hlt : w.heap.size < w1.heap.size := lt_of_block hcur
  have HR : Hid (∀ ty', (Builtin.copy_ #[22, 22] ty' #[.slice (some ⟨w.heap.size, 0, none⟩) n n, .slice (some x) n cap]).run Try.prog w1 = .ok (goInt n) (w1.setRow w.heap.size cs.toArray)) := fun ty' =>
    run_copy_all w1 22 ty' 5 w.heap.size n n cap 1 x cur 5 cs Try.underlying22 (by rw [hi]; simp [hz1]) hcur HL hsz (fun j v hj => src_later hb1 (HS.out j v hj)) H1
  have HB1 : Hid (Below w.heap.size w (w1.setRow w.heap.size cs.toArray)) := below_setRow hb1 (Nat.le_refl _) _
  have HH : Hid ((w1.setRow w.heap.size cs.toArray).heap[w.heap.size]? = some (.cells cs.toArray 5 (0, 0))) := setRow_block hcur
  clear hown hgrow hb1 hcur hsz hlt HS HL H1
  go_wp2_with (refine Lib.wpList_copy_run _ rfl (.tmp 9) (.tmp 10) 22 22 rfl _ _ rfl rfl (HR.out _) ?_)
  go_ret
  exact ⟨rfl, HH, HB1⟩

end Go.Proofs.Qxb6602913a
