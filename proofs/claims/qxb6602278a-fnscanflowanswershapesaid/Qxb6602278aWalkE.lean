import Derived.Test.Qxb6602278aWalkD
import Derived.Test.Qxb6602278aLaw
import Derived.OpenShut
namespace Go.Proofs.Qxb6602278a
open Go.RowKit Go.ChangeShapes Go.WideShapes

/-- What is told of a slice of bytes that came in. -/
def Row (w : World) (a : Option Addr) (len cap : Nat) (zs : List Int) : Prop :=
  (a = none ∧ len = 0 ∧ cap = 0 ∧ zs = []) ∨
  ∃ x, a = some x ∧ len ≤ cap ∧ cap ≤ maxLen ∧ zs.length = cap ∧ (∀ i, i < zs.length → w.cell? (x.add i) = some (.int .u8 (zs.getD i 0))) ∧ ∀ n ∈ zs, (Lit.int .u8 n).wf = true

/-- The same, of the elements alone. -/
structure In (w : World) (a : Option Addr) (cap : Nat) (L : List Int) : Prop where
  src : Src w a L
  nil : a = none → cap = 0 ∧ L = []
  wf : ∀ k, 0 ≤ Sf.B L k ∧ Sf.B L k ≤ 255
  len : L.length ≤ maxLen

theorem u8_bd {n : Int} (h : (Lit.int .u8 n).wf = true) : 0 ≤ n ∧ n ≤ 255 := by
  have := bounds_u8 h
  omega

theorem In.of_row {w : World} {a : Option Addr} {len cap : Nat} {zs : List Int} (h : Row w a len cap zs) : In w a cap (zs.take len) ∧ (zs.take len).length = len := by
  rcases h with ⟨rfl, rfl, rfl, rfl⟩ | ⟨x, rfl, h1, h2, h3, h4, h5⟩
  · exact ⟨⟨.inl ⟨rfl, .inl rfl⟩, fun _ => ⟨rfl, rfl⟩, fun k => by simp [Sf.B], by simp⟩, rfl⟩
  · have hl : (zs.take len).length = len := by simp; omega
    have hwf : ∀ k, 0 ≤ Sf.B (zs.take len) k ∧ Sf.B (zs.take len) k ≤ 255 := by
      intro k
      unfold Sf.B
      rw [List.getD_eq_getElem?_getD]
      cases hk : (zs.take len)[k]? with
      | none => simp
      | some n => exact u8_bd (h5 n (List.mem_of_mem_take (List.mem_of_getElem? hk)))
    refine ⟨⟨?_, fun h => (by cases h), hwf, by omega⟩, hl⟩
    by_cases h0 : len = 0
    · subst h0; exact .inl ⟨by simp, .inr ⟨x, rfl⟩⟩
    · obtain ⟨b, off, rfl, hc⟩ := ints_at h4 (by omega)
      refine .inr ⟨b, off, rfl, ?_, ?_⟩
      · exact World.block_lt_of_cell? w _ (hc 0 (by omega))
      · intro i hi
        rw [hl] at hi
        rw [hc i (by omega)]
        unfold Sf.B
        simp [List.getElem?_take_of_lt hi]

/-- A copy: empty, or in the new block. -/
structure Cl (w w' : World) (ap : Option Addr) (L : List Int) : Prop where
  cp : L = [] ∨ (ap = some ⟨w.heap.size, 0, none⟩ ∧ Bytes w' w.heap.size L ∧ w.heap.size < w'.heap.size)
  bel : Below w.heap.size w w'

theorem clone_any (a : Option Addr) (cap : Nat) (L : List Int) (w : World) (hL : L.length ≤ 1048576) (h : In w a cap L) :
    Calls Try.prog 14 #[.slice a L.length cap] w fun e w' => ∃ ap, e = .returned (.slice ap L.length L.length) ∧ Cl w w' ap L := by
  cases a with
  | none =>
    obtain ⟨rfl, rfl⟩ := h.nil rfl
    refine (clone_nil w).mono ?_
    rintro e w' ⟨rfl, rfl⟩
    exact ⟨none, rfl, .inl rfl, Below.refl _ _⟩
  | some x =>
    refine (clone_some x cap L w hL h.src).mono ?_
    rintro e w' ⟨rfl, h1, h2, h3⟩
    exact ⟨_, rfl, .inr ⟨rfl, h1, h3⟩, h2⟩

theorem zzScan_sh (b cap : Nat) (L : List Int) (o n : Nat) (r : Sf.Res) (ok : Bool) (cl : Nat) (w : World) (hL : L.length ≤ 1048576) (ho : o < L.length) (hb : b < w.heap.size) (hc : Bytes w b L)
    (hwf : ∀ k, 0 ≤ Sf.B L k ∧ Sf.B L k ≤ 255) (hr : Sf.scan L o = shR n r) (h1 : r.ok = ok) (h2 : (if r.ok then r.close + n else 0) = cl) :
    Calls Try.prog 15 #[.slice (some ⟨b, 0, none⟩) L.length cap, .int .i64 (o : Int)] w fun e w' => ∃ av cp,
      e = .returned (.tuple #[.slice av r.C.length cp, .int .i64 (cl : Int), .int .i64 ((r.ce + n : Nat) : Int), .bool ok]) ∧
      w'.ownsRow (w.heap.size + 1) 3 1 (.slice av r.C.length cp) r.C.length (vals (r.C.map (· + n))) ∧ Below w.heap.size w w' := by
  refine (zzScan_any b cap L o w hL ho hb hc hwf).mono ?_
  rintro e w' ⟨v, rfl, hown, hbel⟩
  rw [hr] at hown ⊢
  have hl : (shR n r).C.length = r.C.length := by simp [shR]
  rw [hl] at hown
  obtain ⟨av, cp, rfl⟩ := own_shape hown
  refine ⟨av, cp, ?_, hown, hbel⟩
  rw [← h1, ← h2]
  rfl

theorem zzScan_m (m b cap : Nat) (L : List Int) (o n : Nat) (r : Sf.Res) (ok : Bool) (cl : Nat) (w : World) (hm : m = L.length) (hL : L.length ≤ 1048576) (ho : o < L.length) (hb : b < w.heap.size) (hc : Bytes w b L)
    (hwf : ∀ k, 0 ≤ Sf.B L k ∧ Sf.B L k ≤ 255) (hr : Sf.scan L o = shR n r) (h1 : r.ok = ok) (h2 : (if r.ok then r.close + n else 0) = cl) :
    Calls Try.prog 15 #[.slice (some ⟨b, 0, none⟩) m cap, .int .i64 (o : Int)] w fun e w' => ∃ av cp,
      e = .returned (.tuple #[.slice av r.C.length cp, .int .i64 (cl : Int), .int .i64 ((r.ce + n : Nat) : Int), .bool ok]) ∧
      w'.ownsRow (w.heap.size + 1) 3 1 (.slice av r.C.length cp) r.C.length (vals (r.C.map (· + n))) ∧ Below w.heap.size w w' := by
  rw [hm]
  exact zzScan_sh b cap L o n r ok cl w hL ho hb hc hwf hr h1 h2

theorem ownsRow_later {w wX : World} {base : Nat} {e : TypeId} {size : Nat} {v : Value} {n : Nat} {xs : List Value} (h : w.ownsRow base e size v n xs) (hb : Below w.heap.size w wX) : wX.ownsRow base e size v n xs := by
  refine ⟨h.1, ?_⟩
  rcases h.2 with h2 | ⟨g, cap, cur, hv, hg, hh, r⟩
  · exact .inl h2
  · exact .inr ⟨g, cap, cur, hv, hg, by rw [hb.block g (lt_of_block hh)]; exact hh, r⟩

set_option maxHeartbeats 1000000 in
set_option maxRecDepth 100000 in
theorem bytes17 (a0 a1 a3 : Option Addr) (n0 n1 n3 c0 c1 c3 : Nat) (o : Int) (w : World) (h0 : n0 ≤ 262144) (h1 : n1 ≤ 262144) (h3 : n3 ≤ 262144) :
    Calls Try.prog 17 #[.slice a0 n0 c0, .slice a1 n1 c1, .int .i64 o, .slice a3 n3 c3] w fun e w' => e = .returned (.bool true) ∧ w' = w := by
  go_enter Try.func17, Try.ntmps17
  go_wp2
  go_ret
  exact ⟨rfl, rfl⟩

set_option maxHeartbeats 1000000 in
set_option maxRecDepth 100000 in
theorem bytes17n (a0 a1 a3 : Option Addr) (n0 n1 n3 c0 c1 c3 : Nat) (o : Int) (w : World) :
    Calls Try.prog 17 #[.slice a0 n0 c0, .slice a1 n1 c1, .int .i64 o, .slice a3 n3 c3] w fun e w' => ∃ t, e = .returned (.bool t) ∧ w' = w := by
  go_enter Try.func17, Try.ntmps17
  go_wp2
  all_goals
    go_ret
    exact ⟨_, rfl, rfl⟩
end Go.Proofs.Qxb6602278a
