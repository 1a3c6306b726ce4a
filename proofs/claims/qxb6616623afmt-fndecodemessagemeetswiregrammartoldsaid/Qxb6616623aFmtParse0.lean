/-
  zzB1Parse: its result, its early ways.
-/
import Derived.Test.Qxb6616623aFmtRent
namespace Go.Proofs.Qxb6616623aFmt
open Go.RowKit Go.Lib Go.Shelf
set_option linter.unusedVariables false

def zeroWire : Array Value := #[.int .u8 0, .bool false, .int .u64 0, .int .u64 0, .int .u64 0, .bool false, .int .i64 0, .int .i64 0, .slice none 0 0]

theorem nine_of {T : TypeId} {W : World} {R : Nat} {c0 c1 c2 c3 c4 c5 c6 c7 c8 : Value} (hR : W.heap[R]? = some (.cells #[c0, c1, c2, c3, c4, c5, c6, c7, c8] T (0, 0))) :
    W.cell? ⟨R, 0, none⟩ = some c0 ∧ W.cell? ⟨R, 1, none⟩ = some c1 ∧ W.cell? ⟨R, 2, none⟩ = some c2 ∧ W.cell? ⟨R, 3, none⟩ = some c3 ∧ W.cell? ⟨R, 4, none⟩ = some c4 ∧ W.cell? ⟨R, 5, none⟩ = some c5 ∧ W.cell? ⟨R, 6, none⟩ = some c6 ∧ W.cell? ⟨R, 7, none⟩ = some c7 ∧ W.cell? ⟨R, 8, none⟩ = some c8 ∧ ∀ k, W.frozen? ⟨R, k, none⟩ = false := by
  have q0 := cell_of_row W R 0 _ _ _ hR
  have q1 := cell_of_row W R 1 _ _ _ hR
  have q2 := cell_of_row W R 2 _ _ _ hR
  have q3 := cell_of_row W R 3 _ _ _ hR
  have q4 := cell_of_row W R 4 _ _ _ hR
  have q5 := cell_of_row W R 5 _ _ _ hR
  have q6 := cell_of_row W R 6 _ _ _ hR
  have q7 := cell_of_row W R 7 _ _ _ hR
  have q8 := cell_of_row W R 8 _ _ _ hR
  simp at q0 q1 q2 q3 q4 q5 q6 q7 q8
  exact ⟨q0, q1, q2, q3, q4, q5, q6, q7, q8, fun k => frozen_of_row W R k _ _ hR⟩

theorem set9_heapT {T : TypeId} (W : World) (R : Nat) (c0 c1 c2 c3 c4 c5 c6 c7 c8 d0 d1 d2 d3 d4 d5 d6 d7 d8 : Value) (h : W.heap[R]? = some (.cells #[d0, d1, d2, d3, d4, d5, d6, d7, d8] T (0, 0))) :
    (set9 W R c0 c1 c2 c3 c4 c5 c6 c7 c8).heap[R]? = some (.cells #[c0, c1, c2, c3, c4, c5, c6, c7, c8] T (0, 0)) := by
  unfold set9
  have h0 := heap_setCell_same W R 0 _ _ c0 h
  have h1 := heap_setCell_same _ R 1 _ _ c1 h0
  have h2 := heap_setCell_same _ R 2 _ _ c2 h1
  have h3 := heap_setCell_same _ R 3 _ _ c3 h2
  have h4 := heap_setCell_same _ R 4 _ _ c4 h3
  have h5 := heap_setCell_same _ R 5 _ _ c5 h4
  have h6 := heap_setCell_same _ R 6 _ _ c6 h5
  have h7 := heap_setCell_same _ R 7 _ _ c7 h6
  have h8 := heap_setCell_same _ R 8 _ _ c8 h7
  simpa using h8

theorem res8 (W : World) (R : Nat) (c0 c1 c2 c3 c4 c5 c6 c7 c8 v3 : Value) (tmps : Array Value) (h2 : tmps[2]? = some (.pointer (some ⟨R, 0, none⟩))) (h3 : tmps[3]? = some v3) (hR : W.heap[R]? = some (.cells #[c0, c1, c2, c3, c4, c5, c6, c7, c8] 28 (0, 0))) :
    (results Tryf.f8 tmps).run Tryf.prog W = .ok (.tuple #[.agg #[c0, c1, c2, c3, c4, c5, c6, c7, c8], v3]) W := by
  obtain ⟨q0, q1, q2, q3, q4, q5, q6, q7, q8, _⟩ := nine_of hR
  simp [results, Tryf.results8, go_sem, h2, h3, q0, q1, q2, q3, q4, q5, q6, q7, q8]

/-- An entry as the law's own reader lays it. -/
def WEnt (N : Nat) (e : Ent) (xs : List Value) (i : Nat) : Prop :=
  ∃ st ln : Nat, xs[i * 7]? = some (.int .u64 (e.space : Int)) ∧ xs[i * 7 + 1]? = some (.int .u64 (e.index : Int)) ∧ xs[i * 7 + 2]? = some (.int .u64 (e.ballot : Int)) ∧ xs[i * 7 + 3]? = some (.int .u64 (e.accepted : Int)) ∧ xs[i * 7 + 4]? = some (.bool e.val.isSome) ∧ xs[i * 7 + 5]? = some (.int .i64 (st : Int)) ∧ xs[i * 7 + 6]? = some (.int .i64 (ln : Int)) ∧ WV e.val st ln ∧ st ≤ N ∧ ln ≤ N

def WEnts (N : Nat) (w : World) (B : Nat) (es : List Ent) (sl : Value) : Prop :=
  ∃ xs, w.ownsRow B 54 7 sl es.length xs ∧ ∀ i (h : i < es.length), WEnt N es[i] xs i

def Bad (w : World) (e : Ending) (w' : World) : Prop :=
  (∃ (t v1 v2 v3 st ln : Int) (sy has : Bool) (ea : Option Addr) (en ec : Nat), e = .returned (.tuple #[.agg #[.int .u8 t, .bool sy, .int .u64 v1, .int .u64 v2, .int .u64 v3, .bool has, .int .i64 st, .int .i64 ln, .slice ea en ec], .bool false])) ∧ Below w.heap.size w w'

def Good (N : Nat) (w : World) (m : Msg) (e : Ending) (w' : World) : Prop :=
  ∃ (st ln : Nat) (ea : Option Addr) (en ec : Nat), e = .returned (.tuple #[.agg #[.int .u8 (m.typ : Int), .bool m.synced, .int .u64 (m.tag : Int), .int .u64 (m.place : Int), .int .u64 (m.ballot : Int), .bool m.val.isSome, .int .i64 (st : Int), .int .i64 (ln : Int), .slice ea en ec], .bool true]) ∧ WV m.val st ln ∧ st ≤ N ∧ ln ≤ N ∧ WEnts N w' w.heap.size m.ents (.slice ea en ec) ∧ Below w.heap.size w w'

def ParsePost (L : List UInt8) (w : World) (e : Ending) (w' : World) : Prop :=
  (decodeM L = none → Bad w e w') ∧ ∀ m, decodeM L = some m → Good L.length w m e w'

def W28 (w : World) : World := (w.alloc (.cells zeroWire 28)).alloc (.cells zeroWire 28)
theorem w28_below (w : World) : Below w.heap.size w (W28 w) := ((Below.refl _ w).alloc (Nat.le_refl _) _).alloc (by simp) _
theorem w28_R (w : World) : (W28 w).heap[w.heap.size]? = some (.cells zeroWire 28 (0, 0)) := by
  unfold W28
  rw [Below.heap_alloc _ _ _ (by simp)]
  exact heap_alloc_new _ _
theorem w28_M (w : World) : (W28 w).heap[w.heap.size + 1]? = some (.cells zeroWire 28 (0, 0)) := by
  have := heap_alloc_new (w.alloc (.cells zeroWire 28)) (.cells zeroWire 28)
  rw [World.size_alloc] at this
  exact this

set_option maxRecDepth 100000 in
set_option maxHeartbeats 1000000 in
theorem parse_empty (a : Option Addr) (c : Nat) (w : World) : Calls Tryf.prog 8 #[.slice a 0 c] w (Bad w) := by
  have hR := w28_R w
  have HR : Hid ((W28 w).heap[w.heap.size]? = some (.cells zeroWire 28 (0, 0))) := hR
  clear hR
  go_enter Tryf.func8, Tryf.ntmps8
  go_wp2_with fail
  refine bodyPost_ret (res8 _ w.heap.size _ _ _ _ _ _ _ _ _ _ _ rfl rfl HR.out) rfl ?_
  exact ⟨⟨_, _, _, _, _, _, _, _, _, _, _, rfl⟩, w28_below w⟩

set_option maxRecDepth 100000 in
set_option maxHeartbeats 1000000 in
theorem parse_type (g c n b t : Nat) (w : World) (hn : 0 < n) (hn9 : n ≤ 1048576) (hgw : g < w.heap.size) (hb : w.cell? ⟨g, 0, none⟩ = some (.int .u8 (b : Int))) (hbit : bits .and .u8 (b : Int) 127 = (t : Int)) (ht : typOk t = false) : Calls Tryf.prog 8 #[.slice (some ⟨g, 0, none⟩) n c] w (Bad w) := by
  have hR := w28_R w
  have HR : Hid ((W28 w).heap[w.heap.size]? = some (.cells zeroWire 28 (0, 0))) := hR
  have hn0 : ((n : Int) == 0) = false := by rw [beq_eq_false_iff_ne]; omega
  have hnI : (0 : Int) < (n : Int) := by omega
  have hlt1 : g < w.heap.size + 1 := by omega
  clear hR
  by_cases h1 : t < 1
  · have h1I : (t : Int) < 1 := by omega
    clear ht
    go_enter Tryf.func8, Tryf.ntmps8
    go_wp2_with fail
    refine bodyPost_ret (res8 _ w.heap.size _ _ _ _ _ _ _ _ _ _ _ rfl rfl HR.out) rfl ?_
    exact ⟨⟨_, _, _, _, _, _, _, _, _, _, _, rfl⟩, w28_below w⟩
  · have h2I : (21 : Int) < (t : Int) := by
      unfold typOk at ht
      simp at ht
      omega
    have h1I : ¬ (t : Int) < 1 := by omega
    clear ht
    go_enter Tryf.func8, Tryf.ntmps8
    go_wp2_with fail
    refine bodyPost_ret (res8 _ w.heap.size _ _ _ _ _ _ _ _ _ _ _ rfl rfl HR.out) rfl ?_
    exact ⟨⟨_, _, _, _, _, _, _, _, _, _, _, rfl⟩, w28_below w⟩
end Go.Proofs.Qxb6616623aFmt
