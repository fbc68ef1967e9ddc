import Derived.Test.Qxb6602278aWalkA
import Derived.Lib.SlBytesConst
namespace Go.Proofs.Qxb6602278a
open Go.RowKit

/-- The block of the answer: commas, close, contentEnd. -/
def Flow (w : World) (b : Nat) (v x y : Value) : Prop := w.heap[b]? = some (.cells #[v, x, y] 35 (0, 0))

theorem Flow.c0 {w : World} {b : Nat} {v x y : Value} (h : Flow w b v x y) : w.cell? ⟨b, 0, none⟩ = some v := by unfold Flow at h; simp [World.cell?, h]
theorem Flow.c1 {w : World} {b : Nat} {v x y : Value} (h : Flow w b v x y) : w.cell? ⟨b, 1, none⟩ = some x := by unfold Flow at h; simp [World.cell?, h]
theorem Flow.c2 {w : World} {b : Nat} {v x y : Value} (h : Flow w b v x y) : w.cell? ⟨b, 2, none⟩ = some y := by unfold Flow at h; simp [World.cell?, h]
theorem Flow.fr {w : World} {b : Nat} {v x y : Value} (h : Flow w b v x y) (i : Nat) : w.frozen? ⟨b, i, none⟩ = false := by unfold Flow at h; simp [World.frozen?, h]
theorem Flow.s0 {w : World} {b : Nat} {v x y : Value} (h : Flow w b v x y) (u : Value) : Flow (w.setCell ⟨b, 0, none⟩ u) b u x y := by unfold Flow at *; simp [World.setCell, Array.getElem?_modify, h]
theorem Flow.s1 {w : World} {b : Nat} {v x y : Value} (h : Flow w b v x y) (u : Value) : Flow (w.setCell ⟨b, 1, none⟩ u) b v u y := by unfold Flow at *; simp [World.setCell, Array.getElem?_modify, h]
theorem Flow.s2 {w : World} {b : Nat} {v x y : Value} (h : Flow w b v x y) (u : Value) : Flow (w.setCell ⟨b, 2, none⟩ u) b v x u := by unfold Flow at *; simp [World.setCell, Array.getElem?_modify, h]
theorem Flow.lt {w : World} {b : Nat} {v x y : Value} (h : Flow w b v x y) : b < w.heap.size := lt_of_block h
theorem Flow.alloc {w : World} {b : Nat} {v x y : Value} (h : Flow w b v x y) (o : Obj) : Flow (w.alloc o) b v x y := by
  have hl := lt_of_block h
  unfold Flow at *; rw [Below.heap_alloc w o b hl]; exact h
theorem Flow.grown {w w' : World} {b : Nat} {v x y : Value} {row : Option Nat} (h : Flow w b v x y) (hg : w.grownBy w' row) (hr : row ≠ some b) : Flow w' b v x y := by
  have hl := lt_of_block h
  unfold Flow at *; rw [hg.block b hl (fun e => hr e.symm)]; exact h

def vals (C : List Nat) : List Value := C.map fun c : Nat => Value.int .i64 (c : Int)
theorem vals_snoc (C : List Nat) (k : Nat) : vals (C ++ [k]) = vals C ++ [.int .i64 (k : Int)] := by simp [vals]

theorem own_shape {w : World} {base : Nat} {e : TypeId} {size : Nat} {v : Value} {n : Nat} {xs : List Value} (h : w.ownsRow base e size v n xs) : ∃ av cp, v = .slice av n cp := by
  rcases h.2 with ⟨rfl, rfl⟩ | ⟨g, cap, cur, rfl, _⟩
  · exact ⟨_, _, rfl⟩
  · exact ⟨_, _, rfl⟩

/-- What holds at the head of each round. -/
def Rel (L : List Int) (o : Nat) (w : World) (d pv i : Value) (wr : World) : Prop :=
  ∃ (k : Nat) (d' pv' : Int) (C : List Nat) (ce : Nat) (v : Value) (f : Nat), d = .int .i64 d' ∧ pv = .int .u8 pv' ∧ i = .int .i64 (k : Int) ∧ k ≤ L.length ∧ -(k : Int) ≤ d' ∧ d' ≤ k ∧ 0 ≤ pv' ∧ pv' ≤ 255 ∧ C.length ≤ k ∧
    Flow wr w.heap.size v (.int .i64 0) (.int .i64 (ce : Int)) ∧ wr.ownsRow (w.heap.size + 1) 3 1 v C.length (vals C) ∧ Below w.heap.size w wr ∧
    L.length - k ≤ f ∧ Sf.run L f ⟨k, d', pv', C, ce⟩ = Sf.scan L o

theorem Bytes.later {w wr : World} {b : Nat} {L : List Int} (h : Bytes w b L) (hb : b < w.heap.size) (hn : Below w.heap.size w wr) : Bytes wr b L :=
  fun i hi => (hn.cell (p := ⟨b, i, none⟩) hb).trans (h i hi)

/-- A round that goes on, whatever it does. -/
theorem rel_go {L : List Int} {o : Nat} {w wr' : World} {k : Nat} {d pv : Int} {C : List Nat} {ce f : Nat} {vd vp vi : Value} (k' : Nat) (d' pv' : Int) (C' : List Nat) (ce' : Nat) {v' : Value}
    (hlt : k < L.length) (hf : L.length - k ≤ f) (hrun : Sf.run L f ⟨k, d, pv, C, ce⟩ = Sf.scan L o)
    (hs : Sf.ends L ⟨k, d, pv, C, ce⟩ = false ∧ Sf.next L ⟨k, d, pv, C, ce⟩ = ⟨k', d', pv', C', ce'⟩)
    (e1 : vd = .int .i64 d') (e2 : vp = .int .u8 pv') (e3 : vi = .int .i64 (k' : Int)) (h1 : -(k' : Int) ≤ d') (h2 : d' ≤ k') (h3 : 0 ≤ pv') (h4 : pv' ≤ 255) (h5 : C'.length ≤ k')
    (hfl : Flow wr' w.heap.size v' (.int .i64 0) (.int .i64 (ce' : Int))) (hown : wr'.ownsRow (w.heap.size + 1) 3 1 v' C'.length (vals C')) (hbel : Below w.heap.size w wr') :
    Rel L o w vd vp vi wr' := by
  have hn := Sf.next_lt L ⟨k, d, pv, C, ce⟩ hlt
  obtain ⟨g, hg, hr⟩ := Sf.run_next L f ⟨k, d, pv, C, ce⟩ hlt hf hs.1
  rw [hs.2] at hn hr hg
  exact ⟨k', d', pv', C', ce', v', g, e1, e2, e3, hn.2, h1, h2, h3, h4, h5, hfl, hown, hbel, hg, hr ▸ hrun⟩

/-! the rounds, in plain words -/
section
variable {L : List Int} {k : Nat} {d pv : Int} {C : List Nat} {ce : Nat}
theorem n_ws (h : Sf.isWs (Sf.B L k) = true) : Sf.ends L ⟨k, d, pv, C, ce⟩ = false ∧ Sf.next L ⟨k, d, pv, C, ce⟩ = ⟨k + 1, d, pv, C, ce⟩ := by
  simp [Sf.ends, Sf.next, h]
theorem n_com (h : Sf.B L k = 35) (h0 : 0 < k) (h1 : Sf.isWs (Sf.B L (k - 1)) = true) : Sf.ends L ⟨k, d, pv, C, ce⟩ = false ∧ Sf.next L ⟨k, d, pv, C, ce⟩ = ⟨Sf.skip L k, d, pv, C, ce⟩ := by
  have hw : Sf.isWs 35 = false := by decide
  have hc : Sf.isCom L k = true := by simp [Sf.isCom, h, h0, h1]
  simp [Sf.ends, Sf.next, h, hw, hc]
theorem n_q (h : Sf.B L k = 34 ∨ Sf.B L k = 39) (h1 : Sf.isPre pv = true) : Sf.ends L ⟨k, d, pv, C, ce⟩ = false ∧ Sf.next L ⟨k, d, pv, C, ce⟩ = ⟨Sf.qe L k, d, Sf.B L k, C, Sf.qe L k⟩ := by
  have hw : Sf.isWs (Sf.B L k) = false := by rcases h with h | h <;> rw [h] <;> decide
  have hc : Sf.isCom L k = false := by rcases h with h | h <;> simp [Sf.isCom, h]
  have hq : Sf.isQ L ⟨k, d, pv, C, ce⟩ = true := by rcases h with h | h <;> simp [Sf.isQ, h, h1]
  simp [Sf.ends, Sf.next, hw, hc, hq, Sf.put]
theorem n_op (h : Sf.B L k = 91 ∨ Sf.B L k = 123) : Sf.ends L ⟨k, d, pv, C, ce⟩ = false ∧ Sf.next L ⟨k, d, pv, C, ce⟩ = ⟨k + 1, d + 1, Sf.B L k, C, k + 1⟩ := by
  have hw : Sf.isWs (Sf.B L k) = false := by rcases h with h | h <;> rw [h] <;> decide
  have hc : Sf.isCom L k = false := by rcases h with h | h <;> simp [Sf.isCom, h]
  have hq : Sf.isQ L ⟨k, d, pv, C, ce⟩ = false := by rcases h with h | h <;> simp [Sf.isQ, h]
  have ho : Sf.isOp (Sf.B L k) = true := by rcases h with h | h <;> rw [h] <;> decide
  simp [Sf.ends, Sf.next, hw, hc, hq, ho, Sf.put]
theorem cl_facts (h : Sf.B L k = 93 ∨ Sf.B L k = 125) : Sf.isWs (Sf.B L k) = false ∧ Sf.isCom L k = false ∧ Sf.isQ L ⟨k, d, pv, C, ce⟩ = false ∧ Sf.isOp (Sf.B L k) = false ∧ Sf.isCl (Sf.B L k) = true := by
  refine ⟨?_, ?_, ?_, ?_, ?_⟩
  · rcases h with h | h <;> rw [h] <;> decide
  · rcases h with h | h <;> simp [Sf.isCom, h]
  · rcases h with h | h <;> simp [Sf.isQ, h]
  · rcases h with h | h <;> rw [h] <;> decide
  · rcases h with h | h <;> rw [h] <;> decide
theorem n_cl (h : Sf.B L k = 93 ∨ Sf.B L k = 125) (hd : ¬ d - 1 = 0) : Sf.ends L ⟨k, d, pv, C, ce⟩ = false ∧ Sf.next L ⟨k, d, pv, C, ce⟩ = ⟨k + 1, d - 1, Sf.B L k, C, k + 1⟩ := by
  obtain ⟨h1, h2, h3, h4, h5⟩ := cl_facts (d := d) (pv := pv) (C := C) (ce := ce) h
  simp [Sf.ends, Sf.next, h1, h2, h3, h4, h5, Sf.put, hd]
theorem n_end (h : Sf.B L k = 93 ∨ Sf.B L k = 125) (hd : d - 1 = 0) : Sf.ends L ⟨k, d, pv, C, ce⟩ = true := by
  obtain ⟨h1, h2, h3, h4, h5⟩ := cl_facts (d := d) (pv := pv) (C := C) (ce := ce) h
  simp [Sf.ends, h1, h2, h3, h4, h5, hd]
theorem n_comma (h : Sf.B L k = 44) (hd : d = 1) : Sf.ends L ⟨k, d, pv, C, ce⟩ = false ∧ Sf.next L ⟨k, d, pv, C, ce⟩ = ⟨k + 1, d, Sf.B L k, C ++ [k], k + 1⟩ := by
  subst hd
  have h1 : Sf.isWs 44 = false := by decide
  have h2 : Sf.isOp 44 = false := by decide
  have h3 : Sf.isCl 44 = false := by decide
  have hc : Sf.isCom L k = false := by simp [Sf.isCom, h]
  have hq : Sf.isQ L ⟨k, 1, pv, C, ce⟩ = false := by simp [Sf.isQ, h]
  simp [Sf.ends, Sf.next, h, h1, h2, h3, hc, hq, Sf.put]
theorem n_def (h1 : Sf.isWs (Sf.B L k) = false) (h2 : Sf.isCom L k = false) (h3 : Sf.isQ L ⟨k, d, pv, C, ce⟩ = false) (h4 : Sf.isOp (Sf.B L k) = false) (h5 : Sf.isCl (Sf.B L k) = false)
    (h6 : (Sf.B L k == 44 && d == 1) = false) : Sf.ends L ⟨k, d, pv, C, ce⟩ = false ∧ Sf.next L ⟨k, d, pv, C, ce⟩ = ⟨k + 1, d, Sf.B L k, C, k + 1⟩ := by
  simp [Sf.ends, Sf.next, h1, h2, h3, h4, h5, Sf.put]
  simp at h6
  exact h6
end

theorem bytes_lit4 (w : World) : Bytes (w.alloc (.cells #[.int .u8 32, .int .u8 9, .int .u8 13, .int .u8 10] 5 (4, 5))) w.heap.size [32, 9, 13, 10] := by
  intro i hi
  match i, hi with
  | 0, _ => rw [World.cell?_alloc_mark]; rfl
  | 1, _ => rw [World.cell?_alloc_mark]; rfl
  | 2, _ => rw [World.cell?_alloc_mark]; rfl
  | 3, _ => rw [World.cell?_alloc_mark]; rfl
theorem bytes_lit5 (w : World) : Bytes (w.alloc (.cells #[.int .u8 91, .int .u8 123, .int .u8 44, .int .u8 58, .int .u8 63] 5 (5, 6))) w.heap.size [91, 123, 44, 58, 63] := by
  intro i hi
  match i, hi with
  | 0, _ => rw [World.cell?_alloc_mark]; rfl
  | 1, _ => rw [World.cell?_alloc_mark]; rfl
  | 2, _ => rw [World.cell?_alloc_mark]; rfl
  | 3, _ => rw [World.cell?_alloc_mark]; rfl
  | 4, _ => rw [World.cell?_alloc_mark]; rfl

theorem idx_ws (b c : Nat) (cv : Int) (w : World) (hc : Bytes w b [32, 9, 13, 10]) :
    Calls Try.prog 27 #[.slice (some ⟨b, 0, none⟩) 4 c, .int .u8 cv] w fun e w' => e = .returned (.int .i64 (wsI cv)) ∧ w' = w := idx_any b c [32, 9, 13, 10] cv w hc
theorem idx_pre (b c : Nat) (cv : Int) (w : World) (hc : Bytes w b [91, 123, 44, 58, 63]) :
    Calls Try.prog 27 #[.slice (some ⟨b, 0, none⟩) 5 c, .int .u8 cv] w fun e w' => e = .returned (.int .i64 (preI cv)) ∧ w' = w := idx_any b c [91, 123, 44, 58, 63] cv w hc

end Go.Proofs.Qxb6602278a
