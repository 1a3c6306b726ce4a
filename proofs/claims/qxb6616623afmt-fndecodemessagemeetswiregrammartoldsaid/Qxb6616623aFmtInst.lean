/-
  The walk of (*decoder).instance.
-/
import Derived.Test.Qxb6616623aFmtVal
namespace Go.Proofs.Qxb6616623aFmt
open Go.RowKit Go.Lib Go.Shelf

def stInst (L : List UInt8) (st : Option Nat) : (Nat × Nat) × Option Nat :=
  if 7 < (stVar L st).1 then ((0, 0), none) else (((stVar L st).1, (stVar L (stVar L st).2).1), (stVar L (stVar L st).2).2)

theorem dec_grown {w w' : World} {D B r g o cap : Nat} {L : List UInt8} {st : Option Nat} (h : DecS w D B g o cap L st) (hg : w.grownBy w' (some r)) (hDr : D ≠ r) (hrB : r < B) : DecS w' D B g o cap L st := by
  cases st with
  | none =>
    obtain ⟨f0, f1, ⟨a, n, c, h0⟩, y, t, h1, hy, hB⟩ := h
    have hlt : D < w.heap.size := block_lt_of_cell h0
    exact ⟨(gb_frozen hg hlt hDr).trans f0, (gb_frozen hg hlt hDr).trans f1, ⟨a, n, c, (gb_cell hg hlt hDr).trans h0⟩, y, t, (gb_cell hg hlt hDr).trans h1, (gb_cell hg (show y < w.heap.size from block_lt_of_cell hy) (show y ≠ r by omega)).trans hy, hB⟩
  | some p =>
    obtain ⟨f0, f1, hp, h1, x, h0, hx⟩ := h
    have hlt : D < w.heap.size := block_lt_of_cell h0
    exact ⟨(gb_frozen hg hlt hDr).trans f0, (gb_frozen hg hlt hDr).trans f1, hp, (gb_cell hg hlt hDr).trans h1, x, (gb_cell hg hlt hDr).trans h0, hx⟩

theorem dec_alloc {w : World} {D B g o cap : Nat} {L : List UInt8} {st : Option Nat} (h : DecS w D B g o cap L st) (ob : Obj) : DecS (w.alloc ob) D B g o cap L st := by
  have hc : ∀ k j, k < w.heap.size → (w.alloc ob).cell? ⟨k, j, none⟩ = w.cell? ⟨k, j, none⟩ := fun k j hk => cell_alloc w ob k j hk
  have hf : ∀ k j, k < w.heap.size → (w.alloc ob).frozen? ⟨k, j, none⟩ = w.frozen? ⟨k, j, none⟩ := fun k j hk => frozen_alloc w ob k j hk
  cases st with
  | none =>
    obtain ⟨f0, f1, ⟨a, n, c, h0⟩, y, t, h1, hy, hB⟩ := h
    have hlt : D < w.heap.size := block_lt_of_cell h0
    exact ⟨(hf _ _ hlt).trans f0, (hf _ _ hlt).trans f1, ⟨a, n, c, (hc _ _ hlt).trans h0⟩, y, t, (hc _ _ hlt).trans h1, (hc _ _ (block_lt_of_cell hy)).trans hy, hB⟩
  | some p =>
    obtain ⟨f0, f1, hp, h1, x, h0, hx⟩ := h
    have hlt : D < w.heap.size := block_lt_of_cell h0
    exact ⟨(hf _ _ hlt).trans f0, (hf _ _ hlt).trans f1, hp, (hc _ _ hlt).trans h1, x, (hc _ _ hlt).trans h0, hx⟩

theorem dec_lt {w : World} {D B g o cap : Nat} {L : List UInt8} {st : Option Nat} (h : DecS w D B g o cap L st) : D < w.heap.size := by
  cases st with
  | none => obtain ⟨_, _, ⟨a, n, c, h0⟩, _⟩ := h; exact block_lt_of_cell h0
  | some p => obtain ⟨_, _, _, _, x, h0, _⟩ := h; exact block_lt_of_cell h0

theorem buf_alloc {w : World} {g o : Nat} {L : List UInt8} (h : BufAt w g o L) (ob : Obj) : BufAt (w.alloc ob) g o L :=
  fun j hj => (cell_alloc w ob g (o + j) (block_lt_of_cell (h j hj))).trans (h j hj)

theorem stVar_lt (L : List UInt8) (st : Option Nat) : (stVar L st).1 < 18446744073709551616 := by
  cases st with
  | none => simp [stVar]
  | some p =>
    cases hr : rVar L p with
    | none => simp [stVar, hr]
    | some x => obtain ⟨v, q⟩ := x; simp only [stVar, hr]; exact (rVar_some hr).2.2.1

def InstPost (w : World) (D B g o cap : Nat) (L : List UInt8) (r : (Nat × Nat) × Option Nat) (e : Ending) (w' : World) : Prop :=
  e = .returned (.agg #[.int .i64 (r.1.1 : Int), .int .u64 (r.1.2 : Int)]) ∧ w.grownBy w' (some D) ∧ DecS w' D B g o cap L r.2

theorem fail_any (D B g o cap : Nat) (L : List UInt8) (st : Option Nat) (s : ByteArray) (w : World) (hD : DecS w D B g o cap L st) (hB : B ≤ w.heap.size) :
    Calls Tryf.prog 22 #[.pointer (some ⟨D, 0, none⟩), .string s] w fun e w' => e = .returned (.tuple #[]) ∧ w.grownBy w' (some D) ∧ DecS w' D B g o cap L none := by
  cases st with
  | none => exact (fail_none D B g o cap L s w hD).mono fun e w' ⟨he, hw⟩ => ⟨he, hw ▸ gb_refl _ _, hw ▸ hD⟩
  | some p => exact fail_some D B g o cap p L s w hD hB

/-- A store into a block that is neither the decoder's nor its error's (whose first cell is a string). -/
theorem dec_store {w : World} {D B g o cap r j : Nat} {L : List UInt8} {st : Option Nat} {v : Value} (h : DecS w D B g o cap L st) (hr : r ≠ D) (hns : ∀ s, w.cell? ⟨r, 0, none⟩ ≠ some (.string s)) : DecS (w.setCell ⟨r, j, none⟩ v) D B g o cap L st := by
  cases st with
  | none =>
    obtain ⟨f0, f1, ⟨a, n, c, h0⟩, y, t, h1, hy, hB⟩ := h
    have hyr : y ≠ r := fun hh => hns t (by rw [← hh]; exact hy)
    refine ⟨by simpa using f0, by simpa using f1, ⟨a, n, c, ?_⟩, y, t, ?_, ?_, hB⟩
    · rw [World.cell?_setCell_other _ _ _ _ (by simp)]; exact h0
    · rw [World.cell?_setCell_other _ _ _ _ (by simp)]; exact h1
    · rw [World.cell?_setCell_other _ _ _ _ (by simp)]; exact hy
  | some p =>
    obtain ⟨f0, f1, hp, h1, x, h0, hx⟩ := h
    refine ⟨by simpa using f0, by simpa using f1, hp, ?_, x, ?_, hx⟩
    · rw [World.cell?_setCell_other _ _ _ _ (by simp)]; exact h1
    · rw [World.cell?_setCell_other _ _ _ _ (by simp)]; exact h0

theorem gb_new {w w' : World} {r : Option Nat} (h : w.grownBy w' r) {k j : Nat} (hk : w.heap.size ≤ k) (v : Value) : w.grownBy (w'.setCell ⟨k, j, none⟩ v) r :=
  ⟨h.os, h.tape, h.output, by simpa using h.size, fun i hi hne => (Below.heap_setCell w' ⟨k, j, none⟩ v i (by show i ≠ k; omega)).trans (h.block i hi hne)⟩

theorem agg_res (w3 : World) (R : Nat) (a b : Int) (tmps : Array Value) (ht : tmps[2]? = some (.pointer (some ⟨R, 0, none⟩))) (h0 : ∃ v, w3.cell? ⟨R, 0, none⟩ = some v) (h1 : ∃ v, w3.cell? ⟨R, 1, none⟩ = some v) :
    (results Tryf.f23 tmps).run Tryf.prog ((w3.setCell ⟨R, 0, none⟩ (.int .i64 a)).setCell ⟨R, 1, none⟩ (.int .u64 b)) = .ok (.agg #[.int .i64 a, .int .u64 b]) ((w3.setCell ⟨R, 0, none⟩ (.int .i64 a)).setCell ⟨R, 1, none⟩ (.int .u64 b)) := by
  obtain ⟨v0, h0⟩ := h0
  obtain ⟨v1, h1⟩ := h1
  have q0 : ((w3.setCell ⟨R, 0, none⟩ (.int .i64 a)).setCell ⟨R, 1, none⟩ (.int .u64 b)).cell? ⟨R, 0, none⟩ = some (.int .i64 a) := by
    rw [World.cell?_setCell_other _ _ _ _ (by simp)]; exact World.cell?_setCell_same _ _ _ h0
  have q1 : ((w3.setCell ⟨R, 0, none⟩ (.int .i64 a)).setCell ⟨R, 1, none⟩ (.int .u64 b)).cell? ⟨R, 1, none⟩ = some (.int .u64 b) := by
    refine World.cell?_setCell_same _ _ _ (u := v1) ?_
    rw [World.cell?_setCell_other _ _ _ _ (by simp)]; exact h1
  generalize (w3.setCell ⟨R, 0, none⟩ (.int .i64 a)).setCell ⟨R, 1, none⟩ (.int .u64 b) = W at q0 q1
  simp [results, Tryf.results23, go_sem, ht, q0, q1]

theorem bool_u64 (s : Nat) : ((7 : Int) < (s : Int)) ↔ 7 < s := by omega

set_option maxHeartbeats 1000000 in
theorem inst_big (D B g o cap s : Nat) (L : List UInt8) (st1 : Option Nat) (w : World) (hDlt : D < w.heap.size) (hB : B ≤ w.heap.size) (hcap : L.length ≤ cap) (hb : BufAt w g o L) (hgD : g ≠ D) (h7 : 7 < s)
    (hu1 : Calls Tryf.prog 20 #[.pointer (some ⟨D, 0, none⟩)] (w.alloc (.cells #[.int .i64 0, .int .u64 0] 44)) fun e w' => e = .returned (.int .u64 (s : Int)) ∧ (w.alloc (.cells #[.int .i64 0, .int .u64 0] 44)).grownBy w' (some D) ∧ DecS w' D B g o cap L st1) :
    Calls Tryf.prog 23 #[.pointer (some ⟨D, 0, none⟩)] w (InstPost w D B g o cap L ((0, 0), none)) := by
  have h7' := (bool_u64 s).2 h7
  go_enter Tryf.func23, Tryf.ntmps23
  go_wp2_with fail
  refine hu1.mono ?_
  rintro e w1 ⟨rfl, hg1, hd1⟩
  have hb1 := gb_buf hg1 hgD (buf_alloc hb _)
  have hs1 := hg1.size
  simp only [World.size_alloc] at hs1
  have hu2 := uv_any D B g o cap L st1 w1 hd1 (by omega) hcap hb1
  have h642 := stVar_lt L st1
  generalize stVar L st1 = r2 at hu2 h642
  obtain ⟨x, st2⟩ := r2
  have HG1 : Hid ((w.alloc (.cells #[.int .i64 0, .int .u64 0] 44)).grownBy w1 (some D)) := hg1
  have HR1 : Hid (w1.heap[w.heap.size]? = some (.cells #[.int .i64 0, .int .u64 0] 44 (0, 0))) := (hg1.block w.heap.size (by simp) (by simp; omega)).trans (heap_alloc_new w _)
  clear hg1 hd1 hb1 hu1
  simp only at hu2 h642
  go_wp2_with fail
  refine hu2.mono ?_
  rintro e w2 ⟨rfl, hg2, hd2⟩
  clear hu2
  have HG2 : Hid (w1.grownBy w2 (some D)) := hg2
  have hs2 := hg2.size
  have HR2 : Hid (w2.heap[w.heap.size]? = some (.cells #[.int .i64 0, .int .u64 0] 44 (0, 0))) := (hg2.block w.heap.size (by omega) (by simp; omega)).trans HR1.out
  have hf := fun t => fail_any D B g o cap L st2 t w2 hd2 (by omega)
  clear hg2 hd2
  go_wp2_with fail
  refine (hf _).mono ?_
  rintro e w3 ⟨rfl, hg3, hd3⟩
  clear hf
  have HG3 : Hid (w2.grownBy w3 (some D)) := hg3
  have HD3 : Hid (DecS w3 D B g o cap L none) := hd3
  have hs3 := hg3.size
  have hR3 : w3.heap[w.heap.size]? = some (.cells #[.int .i64 0, .int .u64 0] 44 (0, 0)) := (hg3.block w.heap.size (by omega) (by simp; omega)).trans HR2.out
  have c0 := cell_of_row w3 w.heap.size 0 _ _ _ hR3
  have c1 := cell_of_row w3 w.heap.size 1 _ _ _ hR3
  have z0 := frozen_of_row w3 w.heap.size 0 _ _ hR3
  have z1 := frozen_of_row w3 w.heap.size 1 _ _ hR3
  simp at c0 c1
  have HR3 : Hid (w3.heap[w.heap.size]? = some (.cells #[.int .i64 0, .int .u64 0] 44 (0, 0))) := hR3
  clear hg3 hd3 hR3
  go_wp2_with fail
  have hns : ∀ t, w3.cell? ⟨w.heap.size, 0, none⟩ ≠ some (.string t) := fun t => by rw [c0]; simp
  refine bodyPost_ret (agg_res w3 w.heap.size 0 0 _ rfl ⟨_, c0⟩ ⟨_, c1⟩) rfl ⟨rfl, ?_, ?_⟩
  · exact gb_new (gb_new (gb_trans (gb_trans (gb_trans (gb_alloc w _ _) HG1.out) HG2.out) HG3.out) (Nat.le_refl _) _) (Nat.le_refl _) _
  · refine dec_store (dec_store HD3.out (by omega) hns) (by omega) (fun t => ?_)
    rw [World.cell?_setCell_same _ _ _ c0]; simp

set_option maxHeartbeats 1000000 in
theorem inst_small (D B g o cap s : Nat) (L : List UInt8) (st1 : Option Nat) (w : World) (hDlt : D < w.heap.size) (hB : B ≤ w.heap.size) (hcap : L.length ≤ cap) (hb : BufAt w g o L) (hgD : g ≠ D) (h7 : ¬ 7 < s)
    (hu1 : Calls Tryf.prog 20 #[.pointer (some ⟨D, 0, none⟩)] (w.alloc (.cells #[.int .i64 0, .int .u64 0] 44)) fun e w' => e = .returned (.int .u64 (s : Int)) ∧ (w.alloc (.cells #[.int .i64 0, .int .u64 0] 44)).grownBy w' (some D) ∧ DecS w' D B g o cap L st1) :
    Calls Tryf.prog 23 #[.pointer (some ⟨D, 0, none⟩)] w (InstPost w D B g o cap L ((s, (stVar L st1).1), (stVar L st1).2)) := by
  have h7' : ¬ ((7 : Int) < (s : Int)) := by omega
  have h642 := stVar_lt L st1
  generalize hr2 : stVar L st1 = r2 at *
  obtain ⟨x, st2⟩ := r2
  have HR : Hid (stVar L st1 = (x, st2)) := hr2
  clear hr2
  simp only at h642 ⊢
  go_enter Tryf.func23, Tryf.ntmps23
  go_wp2_with fail
  refine hu1.mono ?_
  rintro e w1 ⟨rfl, hg1, hd1⟩
  have hb1 := gb_buf hg1 hgD (buf_alloc hb _)
  have hs1 := hg1.size
  simp only [World.size_alloc] at hs1
  have hu2 := uv_any D B g o cap L st1 w1 hd1 (by omega) hcap hb1
  rw [HR.out] at hu2
  have HG1 : Hid ((w.alloc (.cells #[.int .i64 0, .int .u64 0] 44)).grownBy w1 (some D)) := hg1
  have HR1 : Hid (w1.heap[w.heap.size]? = some (.cells #[.int .i64 0, .int .u64 0] 44 (0, 0))) := (hg1.block w.heap.size (by simp) (by simp; omega)).trans (heap_alloc_new w _)
  clear hg1 hd1 hb1 hu1
  simp only at hu2
  go_wp2_with fail
  refine hu2.mono ?_
  rintro e w2 ⟨rfl, hg2, hd2⟩
  clear hu2
  have HG2 : Hid (w1.grownBy w2 (some D)) := hg2
  have HD2 : Hid (DecS w2 D B g o cap L st2) := hd2
  have hR2 : w2.heap[w.heap.size]? = some (.cells #[.int .i64 0, .int .u64 0] 44 (0, 0)) := (hg2.block w.heap.size (by omega) (by simp; omega)).trans HR1.out
  have c0 := cell_of_row w2 w.heap.size 0 _ _ _ hR2
  have c1 := cell_of_row w2 w.heap.size 1 _ _ _ hR2
  have z0 := frozen_of_row w2 w.heap.size 0 _ _ hR2
  have z1 := frozen_of_row w2 w.heap.size 1 _ _ hR2
  simp at c0 c1
  clear hg2 hd2 hR2
  go_wp2_with fail
  have hns : ∀ t, w2.cell? ⟨w.heap.size, 0, none⟩ ≠ some (.string t) := fun t => by rw [c0]; simp
  refine bodyPost_ret (agg_res w2 w.heap.size s x _ rfl ⟨_, c0⟩ ⟨_, c1⟩) rfl ⟨rfl, ?_, ?_⟩
  · exact gb_new (gb_new (gb_trans (gb_trans (gb_alloc w _ _) HG1.out) HG2.out) (Nat.le_refl _) _) (Nat.le_refl _) _
  · refine dec_store (dec_store HD2.out (by omega) hns) (by omega) (fun t => ?_)
    rw [World.cell?_setCell_same _ _ _ c0]; simp

theorem inst_any (D B g o cap : Nat) (L : List UInt8) (st : Option Nat) (w : World) (hD : DecS w D B g o cap L st) (hB : B ≤ w.heap.size) (hcap : L.length ≤ cap) (hb : BufAt w g o L) (hgD : g ≠ D) :
    Calls Tryf.prog 23 #[.pointer (some ⟨D, 0, none⟩)] w (InstPost w D B g o cap L (stInst L st)) := by
  have hu1 := uv_any D B g o cap L st (w.alloc (.cells #[.int .i64 0, .int .u64 0] 44)) (dec_alloc hD _) (by simp; omega) hcap (buf_alloc hb _)
  unfold stInst
  by_cases h7 : 7 < (stVar L st).1
  · rw [if_pos h7]
    exact inst_big D B g o cap _ L _ w (dec_lt hD) hB hcap hb hgD h7 hu1
  · rw [if_neg h7]
    exact inst_small D B g o cap _ L _ w (dec_lt hD) hB hcap hb hgD h7 hu1
end Go.Proofs.Qxb6616623aFmt
