/-
  DecodeMessage on its way: what lies in memory between two of its calls.
-/
import Derived.Test.Qxb6616623aFmtMsg0
namespace Go.Proofs.Qxb6616623aFmt
open Go.RowKit Go.Lib Go.Shelf

/-- The result's block R (still zero), the decoder's R + 1, the message's R + 2. -/
structure DM (w wi : World) (g o cap : Nat) (L : List UInt8) (st : Option Nat) (t : Nat) (c3 c4 c5 c6 c7 : Value) (sy : Bool) : Prop where
  below : Below w.heap.size w wi
  res : wi.heap[w.heap.size]? = some (.cells zeroMsg 35 (0, 0))
  dec : DecS wi (w.heap.size + 1) 0 g o cap L st
  msg : wi.heap[w.heap.size + 1 + 1]? = some (.cells #[.int .u8 (t : Int), .int .i64 0, .int .i64 0, c3, c4, c5, c6, c7, .bool sy] 35 (0, 0))

section
variable {w wi wj : World} {g o cap : Nat} {L : List UInt8} {st st' : Option Nat} {t : Nat} {c3 c4 c5 c6 c7 : Value} {sy : Bool}

theorem block_lt {wx : World} {k : Nat} {ob : Obj} (h : wx.heap[k]? = some ob) : k < wx.heap.size := (Array.getElem?_eq_some_iff.1 h).1

theorem DM.size (h : DM w wi g o cap L st t c3 c4 c5 c6 c7 sy) : w.heap.size + 1 + 1 < wi.heap.size := block_lt h.msg
theorem DM.next (h : DM w wi g o cap L st t c3 c4 c5 c6 c7 sy) (hg : wi.grownBy wj (some (w.heap.size + 1))) (hd : DecS wj (w.heap.size + 1) 0 g o cap L st') : DM w wj g o cap L st' t c3 c4 c5 c6 c7 sy where
  below := h.below.grown hg (by have := h.size; omega) (fun k hk => by cases hk; omega)
  res := (hg.block w.heap.size (by have := h.size; omega) (by simp)).trans h.res
  dec := hd
  msg := (hg.block _ (block_lt h.msg) (by simp)).trans h.msg
theorem DM.mns (h : DM w wi g o cap L st t c3 c4 c5 c6 c7 sy) : ∀ s, wi.cell? ⟨w.heap.size + 1 + 1, 0, none⟩ ≠ some (.string s) := fun s => by rw [(nine_cells h.msg).1]; simp
theorem DM.store (h : DM w wi g o cap L st t c3 c4 c5 c6 c7 sy) (j : Nat) (v : Value) (d3 d4 d5 d6 d7 : Value)
    (hc : (#[.int .u8 (t : Int), .int .i64 0, .int .i64 0, c3, c4, c5, c6, c7, .bool sy] : Array Value).setIfInBounds j v = #[.int .u8 (t : Int), .int .i64 0, .int .i64 0, d3, d4, d5, d6, d7, .bool sy]) :
    DM w (wi.setCell ⟨w.heap.size + 1 + 1, j, none⟩ v) g o cap L st t d3 d4 d5 d6 d7 sy where
  below := h.below.setCell (p := ⟨w.heap.size + 1 + 1, j, none⟩) (by show w.heap.size ≤ w.heap.size + 1 + 1; omega) v
  res := (Below.heap_setCell wi ⟨w.heap.size + 1 + 1, j, none⟩ v w.heap.size (by show w.heap.size ≠ w.heap.size + 1 + 1; omega)).trans h.res
  dec := dec_store h.dec (by omega) h.mns
  msg := (heap_setCell_same wi _ j _ _ v h.msg).trans (by rw [hc])
theorem DM.s3 (h : DM w wi g o cap L st t c3 c4 c5 c6 c7 sy) (v : Value) : DM w (wi.setCell ⟨w.heap.size + 1 + 1, 3, none⟩ v) g o cap L st t v c4 c5 c6 c7 sy := h.store 3 v v c4 c5 c6 c7 (by simp)
theorem DM.s4 (h : DM w wi g o cap L st t c3 c4 c5 c6 c7 sy) (v : Value) : DM w (wi.setCell ⟨w.heap.size + 1 + 1, 4, none⟩ v) g o cap L st t c3 v c5 c6 c7 sy := h.store 4 v c3 v c5 c6 c7 (by simp)
theorem DM.s5 (h : DM w wi g o cap L st t c3 c4 c5 c6 c7 sy) (v : Value) : DM w (wi.setCell ⟨w.heap.size + 1 + 1, 5, none⟩ v) g o cap L st t c3 c4 v c6 c7 sy := h.store 5 v c3 c4 v c6 c7 (by simp)
theorem DM.s6 (h : DM w wi g o cap L st t c3 c4 c5 c6 c7 sy) (v : Value) : DM w (wi.setCell ⟨w.heap.size + 1 + 1, 6, none⟩ v) g o cap L st t c3 c4 c5 v c7 sy := h.store 6 v c3 c4 c5 v c7 (by simp)
theorem DM.s7 (h : DM w wi g o cap L st t c3 c4 c5 c6 c7 sy) (v : Value) : DM w (wi.setCell ⟨w.heap.size + 1 + 1, 7, none⟩ v) g o cap L st t c3 c4 c5 c6 v sy := h.store 7 v c3 c4 c5 c6 v (by simp)
/-- A store into a block behind these three. -/
theorem DM.other (h : DM w wi g o cap L st t c3 c4 c5 c6 c7 sy) (k j : Nat) (v : Value) (hk : w.heap.size + 1 + 1 < k) (hns : ∀ s, wi.cell? ⟨k, 0, none⟩ ≠ some (.string s)) : DM w (wi.setCell ⟨k, j, none⟩ v) g o cap L st t c3 c4 c5 c6 c7 sy where
  below := h.below.setCell (p := ⟨k, j, none⟩) (by show w.heap.size ≤ k; omega) v
  res := (Below.heap_setCell wi ⟨k, j, none⟩ v w.heap.size (by show w.heap.size ≠ k; omega)).trans h.res
  dec := dec_store h.dec (by omega) hns
  msg := (Below.heap_setCell wi ⟨k, j, none⟩ v (w.heap.size + 1 + 1) (by show w.heap.size + 1 + 1 ≠ k; omega)).trans h.msg
/-- New blocks alone. -/
theorem DM.grown (h : DM w wi g o cap L st t c3 c4 c5 c6 c7 sy) (hg : wi.grownBy wj none) : DM w wj g o cap L st t c3 c4 c5 c6 c7 sy := by
  have hc : ∀ k j, k < wi.heap.size → wj.cell? ⟨k, j, none⟩ = wi.cell? ⟨k, j, none⟩ := fun k j hk => World.cell?_of_block (hg.block k hk (by simp))
  have hf : ∀ k j, k < wi.heap.size → wj.frozen? ⟨k, j, none⟩ = wi.frozen? ⟨k, j, none⟩ := fun k j hk => World.frozen?_of_block (hg.block k hk (by simp))
  have hD : w.heap.size + 1 < wi.heap.size := by have := h.size; omega
  refine ⟨h.below.grown hg (by have := h.size; omega) (fun k hk => by cases hk), (hg.block w.heap.size (by have := h.size; omega) (by simp)).trans h.res, ?_, (hg.block _ (block_lt h.msg) (by simp)).trans h.msg⟩
  have hd := h.dec
  cases st with
  | none =>
    obtain ⟨f0, f1, ⟨a, n, c, h0⟩, y, s, h1, hy, hB⟩ := hd
    exact ⟨(hf _ _ hD).trans f0, (hf _ _ hD).trans f1, ⟨a, n, c, (hc _ _ hD).trans h0⟩, y, s, (hc _ _ hD).trans h1, (hc _ _ (show y < wi.heap.size from block_lt_of_cell hy)).trans hy, hB⟩
  | some p =>
    obtain ⟨f0, f1, hp, h1, x, h0, hx⟩ := hd
    exact ⟨(hf _ _ hD).trans f0, (hf _ _ hD).trans f1, hp, (hc _ _ hD).trans h1, x, (hc _ _ hD).trans h0, hx⟩

theorem buf_below {wx wy : World} {B : Nat} (h : BufAt wx g o L) (hb : Below B wx wy) (hg : g < B) : BufAt wy g o L :=
  fun j hj => (hb.cell (p := ⟨g, o + j, none⟩) hg).trans (h j hj)

theorem ValIs.form {v : Option (Nat × Nat)} {x : Value} (h : ValIs g o v x) : ∃ a n c, x = .slice a n c := by
  cases v with
  | none => exact ⟨none, 0, 0, h⟩
  | some p => obtain ⟨s, k⟩ := p; obtain ⟨a, rfl, _⟩ := h; exact ⟨some a, k, k, rfl⟩
end
end Go.Proofs.Qxb6616623aFmt
