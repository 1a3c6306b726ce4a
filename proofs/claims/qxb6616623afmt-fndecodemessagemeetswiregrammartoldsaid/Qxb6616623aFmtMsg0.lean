/-
  DecodeMessage: the ways that end ahead of the first number.
-/
import Derived.Test.Qxb6616623aFmtInst
import Derived.Test.Qxb6616623aFmtErr
namespace Go.Proofs.Qxb6616623aFmt
open Go.RowKit Go.Lib Go.Shelf
open Go.Stop (Interp)

def zeroMsg : Array Value := #[.int .u8 0, .int .i64 0, .int .i64 0, .int .u64 0, .int .u64 0, .int .u64 0, .slice none 0 0, .slice none 0 0, .bool false]

/-- The message that was refused: the zero Message and an error that is not nil. -/
def Refused (w : World) (e : Ending) (w' : World) : Prop := ∃ T p, e = .returned (.tuple #[.agg zeroMsg, .iface T (.pointer (some p))]) ∧ Below w.heap.size w w'

theorem res9 (W : World) (R : Nat) (c0 c1 c2 c3 c4 c5 c6 c7 c8 v3 : Value) (tmps : Array Value) (h2 : tmps[2]? = some (.pointer (some ⟨R, 0, none⟩))) (h3 : tmps[3]? = some v3) (hR : W.heap[R]? = some (.cells #[c0, c1, c2, c3, c4, c5, c6, c7, c8] 35 (0, 0))) :
    (results Tryf.f9 tmps).run Tryf.prog W = .ok (.tuple #[.agg #[c0, c1, c2, c3, c4, c5, c6, c7, c8], v3]) W := by
  have q0 := cell_of_row W R 0 _ _ _ hR
  have q1 := cell_of_row W R 1 _ _ _ hR
  have q2 := cell_of_row W R 2 _ _ _ hR
  have q3 := cell_of_row W R 3 _ _ _ hR
  have q4 := cell_of_row W R 4 _ _ _ hR
  have q5 := cell_of_row W R 5 _ _ _ hR
  have q6 := cell_of_row W R 6 _ _ _ hR
  have q7 := cell_of_row W R 7 _ _ _ hR
  have q8 := cell_of_row W R 8 _ _ _ hR
  simp at q0 q1 q2 q3 q4 q5 q6 q7 q8
  simp [results, Tryf.results9, go_sem, h2, h3, q0, q1, q2, q3, q4, q5, q6, q7, q8]

theorem res9z (W : World) (R : Nat) (v3 : Value) (tmps : Array Value) (h2 : tmps[2]? = some (.pointer (some ⟨R, 0, none⟩))) (h3 : tmps[3]? = some v3) (hR : W.heap[R]? = some (.cells zeroMsg 35 (0, 0))) :
    (results Tryf.f9 tmps).run Tryf.prog W = .ok (.tuple #[.agg zeroMsg, v3]) W := res9 W R _ _ _ _ _ _ _ _ _ v3 tmps h2 h3 hR

set_option maxHeartbeats 1000000 in
theorem msg_empty (a : Option Addr) (c : Nat) (w : World) : Calls Tryf.prog 9 #[.slice a 0 c] w (Refused w) := by
  go_enter Tryf.func9, Tryf.ntmps9
  go_wp2
  refine bodyPost_ret (res9z _ w.heap.size _ _ rfl rfl ?_) rfl ?_
  · rw [Below.heap_alloc _ _ _ (by simp)]; exact heap_alloc_new w _
  · exact ⟨70, _, rfl, ((Below.refl _ w).alloc (Nat.le_refl _) _).alloc (by simp) _⟩

theorem slice1 (g o n c : Nat) (hn : 0 < n) (hnc : n ≤ c) (hc : c ≤ 9223372036854775807) : ∃ x, (∀ W, (Instr.slice 22 (.slice (some ⟨g, o, none⟩) n c) (some (.int .i64 1)) none none).run Tryf.prog W = .ok (.slice (some x) (n - 1) (c - 1)) W) ∧ (1 < n → x = ⟨g, o + 1, none⟩) := by
  by_cases h : c = 1
  · subst h
    obtain rfl : n = 1 := by omega
    exact ⟨⟨g, o, none⟩, fun W => by kernel_rfl, fun hh => by omega⟩
  · refine ⟨⟨g, o + 1, none⟩, fun W => ?_, fun _ => rfl⟩
    have h1 : (1 : Int) ≤ (n : Int) := by omega
    have h2 : ¬ c = 1 := h
    have h3 : 1 ≤ n := hn
    go_simp

def set9 (W : World) (R : Nat) (c0 c1 c2 c3 c4 c5 c6 c7 c8 : Value) : World :=
  ((((((((W.setCell ⟨R, 0, none⟩ c0).setCell ⟨R, 1, none⟩ c1).setCell ⟨R, 2, none⟩ c2).setCell ⟨R, 3, none⟩ c3).setCell ⟨R, 4, none⟩ c4).setCell ⟨R, 5, none⟩ c5).setCell ⟨R, 6, none⟩ c6).setCell ⟨R, 7, none⟩ c7).setCell ⟨R, 8, none⟩ c8

theorem set9_heap (W : World) (R : Nat) (c0 c1 c2 c3 c4 c5 c6 c7 c8 d0 d1 d2 d3 d4 d5 d6 d7 d8 : Value) (h : W.heap[R]? = some (.cells #[d0, d1, d2, d3, d4, d5, d6, d7, d8] 35 (0, 0))) :
    (set9 W R c0 c1 c2 c3 c4 c5 c6 c7 c8).heap[R]? = some (.cells #[c0, c1, c2, c3, c4, c5, c6, c7, c8] 35 (0, 0)) := by
  unfold set9
  have h0 := heap_setCell_same W R 0 _ _ c0 h
  have h1 := heap_setCell_same _ R 1 _ _ c1 h0
  have h2 := heap_setCell_same _ R 2 _ _ c2 h1
  have h3 := heap_setCell_same _ R 3 _ _ c3 h2
  have h4 := heap_setCell_same _ R 4 _ _ c4 h3
  have h5 := heap_setCell_same _ R 5 _ _ c5 h4
  have h6 := heap_setCell_same _ R 6 _ _ c6 h5
  have h7 := heap_setCell_same _ R 7 _ _ c7 h6
  have h8 := heap_setCell_same _ R 8 _ _ c8 h7
  rw [h8]
  simp

theorem set9_below {B : Nat} {w W : World} (R : Nat) (c0 c1 c2 c3 c4 c5 c6 c7 c8 : Value) (h : Below B w W) (hR : B ≤ R) : Below B w (set9 W R c0 c1 c2 c3 c4 c5 c6 c7 c8) :=
  ((((((((h.setCell (p := ⟨R, 0, none⟩) hR _).setCell (p := ⟨R, 1, none⟩) hR _).setCell (p := ⟨R, 2, none⟩) hR _).setCell (p := ⟨R, 3, none⟩) hR _).setCell (p := ⟨R, 4, none⟩) hR _).setCell (p := ⟨R, 5, none⟩) hR _).setCell (p := ⟨R, 6, none⟩) hR _).setCell (p := ⟨R, 7, none⟩) hR _).setCell (p := ⟨R, 8, none⟩) hR _

theorem nine_cells {W : World} {R : Nat} {c0 c1 c2 c3 c4 c5 c6 c7 c8 : Value} (h : W.heap[R]? = some (.cells #[c0, c1, c2, c3, c4, c5, c6, c7, c8] 35 (0, 0))) :
    W.cell? ⟨R, 0, none⟩ = some c0 ∧ W.cell? ⟨R, 1, none⟩ = some c1 ∧ W.cell? ⟨R, 2, none⟩ = some c2 ∧ W.cell? ⟨R, 3, none⟩ = some c3 ∧ W.cell? ⟨R, 4, none⟩ = some c4 ∧ W.cell? ⟨R, 5, none⟩ = some c5 ∧ W.cell? ⟨R, 6, none⟩ = some c6 ∧ W.cell? ⟨R, 7, none⟩ = some c7 ∧ W.cell? ⟨R, 8, none⟩ = some c8 ∧ ∀ j, W.frozen? ⟨R, j, none⟩ = false := by
  refine ⟨?_, ?_, ?_, ?_, ?_, ?_, ?_, ?_, ?_, fun j => frozen_of_row W R j _ _ h⟩ <;> (rw [cell_of_row W R _ _ _ _ h]; rfl)

theorem valid_any (t : Nat) (w : World) : Calls Tryf.prog 18 #[.int .u8 (t : Int)] w fun e w' => e = .returned (.bool (typOk t)) ∧ w = w' := by
  by_cases h1 : 1 ≤ t <;> by_cases h2 : t ≤ 21
  all_goals
    have z1 : (1 : Int) ≤ (t : Int) ↔ 1 ≤ t := by omega
    have z2 : (t : Int) ≤ 21 ↔ t ≤ 21 := by omega
    go_enter Tryf.func18, Tryf.ntmps18
    go_wp2
    all_goals first | (exfalso; omega) | (go_ret; refine ⟨?_, rfl⟩; simp [typOk, h1, h2])

theorem alloc4_heap (w : World) (o1 o2 o3 o4 : Obj) : ((((w.alloc o1).alloc o2).alloc o3).alloc o4).drew.heap[w.heap.size]? = some o1 := by
  show ((((w.alloc o1).alloc o2).alloc o3).alloc o4).heap[w.heap.size]? = some o1
  rw [Below.heap_alloc _ _ _ (by simp; omega), Below.heap_alloc _ _ _ (by simp; omega), Below.heap_alloc _ _ _ (by simp)]
  exact heap_alloc_new w _

set_option maxHeartbeats 2000000 in
theorem msg_type (F : Interp) (g o c n : Nat) (b t : Nat) (sy : Bool) (w : World) (hF : F.answers w.tape) (hn : 0 < n) (hnc : n ≤ c) (hb : w.cell? ⟨g, o, none⟩ = some (.int .u8 (b : Int))) (hl9 : n ≤ 1048576) (hc9 : c ≤ 9223372036854775807) (ht : typOk t = false) (hbit1 : bits .andNot .u8 (b : Int) 128 = (t : Int)) (hbit2 : (bits .and .u8 (b : Int) 128 != 0) = sy) : Calls Tryf.prog 9 #[.slice (some ⟨g, o, none⟩) n c] w (Refused w) := by
  have hlt : g < w.heap.size := block_lt_of_cell hb
  have hn0 : ((n : Int) == 0) = false := by simp; omega
  have hlt1 : g < w.heap.size + 1 := by omega
  have hlt2 : g < w.heap.size + 1 + 1 := by omega
  have hlt3 : g < w.heap.size + 1 + 1 + 1 := by omega
  have hnI : (0 : Int) < (n : Int) := by omega
  obtain ⟨x, hsl, hx⟩ := slice1 g o n c hn hnc hc9
  go_enter Tryf.func9, Tryf.ntmps9
  go_wp2
  go_region
  go_wp2_with fail
  have hv := fun W => valid_any t W
  rw [ht] at hv
  refine (hv _).mono ?_
  rintro e w1 ⟨rfl, rfl⟩
  clear hv hbit1 hbit2 hsl hx
  go_wp2_with fail
  refine (errf1 F (w.heap.size + 1 + 1 + 1) t _ ?_ ?_).mono ?_
  · exact hF
  · rw [World.cell?_drew]
    exact cell_new0 _ _ _ _ (by simp)
  rintro e w2 ⟨T, p, rfl, hb2⟩
  have hR : w2.heap[w.heap.size]? = some (.cells zeroMsg 35 (0, 0)) := by
    rw [hb2.block w.heap.size (by simp; omega)]
    exact alloc4_heap w _ _ _ _
  have HB : Hid (Below w.heap.size w w2) := (((((Below.refl _ w).alloc (Nat.le_refl _) _).alloc (by simp) _).alloc (by simp; omega) _).alloc (by simp; omega) _).drew.trans (hb2.mono (by simp; omega))
  have HR : Hid (w2.heap[w.heap.size]? = some (.cells zeroMsg 35 (0, 0))) := hR
  obtain ⟨q0, q1, q2, q3, q4, q5, q6, q7, q8, qf⟩ := nine_cells hR
  clear hb2 hR
  go_wp2_with fail
  refine bodyPost_ret (res9z _ w.heap.size _ _ rfl rfl (set9_heap w2 w.heap.size _ _ _ _ _ _ _ _ _ _ _ _ _ _ _ _ _ _ HR.out)) rfl ?_
  exact ⟨T, p, rfl, set9_below w.heap.size _ _ _ _ _ _ _ _ _ HB.out (Nat.le_refl _)⟩
end Go.Proofs.Qxb6616623aFmt
