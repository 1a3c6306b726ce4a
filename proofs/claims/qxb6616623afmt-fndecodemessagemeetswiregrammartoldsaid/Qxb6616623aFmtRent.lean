/-
  The walk of zzB1ReadEntry.
-/
import Derived.Test.Qxb6616623aFmtRvl
namespace Go.Proofs.Qxb6616623aFmt
open Go.RowKit Go.Lib Go.Shelf
set_option linter.unusedVariables false

theorem gv_true {L : List UInt8} {p v q : Nat} (h : gVar L p = (v, q, true)) : rVar L p = some (v, q) := by
  unfold gVar at h
  cases hr : rVar L p with
  | none => rw [hr] at h; simp at h
  | some y => obtain ⟨a, b⟩ := y; rw [hr] at h; simp at h; obtain ⟨rfl, rfl⟩ := h; rfl
theorem gv_false {L : List UInt8} {p v q : Nat} (h : gVar L p = (v, q, false)) : rVar L p = none := by
  unfold gVar at h
  cases hr : rVar L p with
  | none => rfl
  | some y => obtain ⟨a, b⟩ := y; rw [hr] at h; simp at h
theorem gv_le {L : List UInt8} {p v q : Nat} {b : Bool} (hp : p ≤ L.length) (h : gVar L p = (v, q, b)) : q ≤ L.length ∧ v < 18446744073709551616 := by
  unfold gVar at h
  cases hr : rVar L p with
  | none => rw [hr] at h; simp at h; obtain ⟨rfl, rfl, _⟩ := h; exact ⟨hp, by omega⟩
  | some y =>
    obtain ⟨a, c⟩ := y
    rw [hr] at h
    simp at h
    obtain ⟨rfl, rfl, _⟩ := h
    obtain ⟨_, h2, h3, _⟩ := rVar_some hr
    exact ⟨h2, h3⟩

/-- Where the value lies, if there is one. -/
def WV (v : Option (Nat × Nat)) (st ln : Nat) : Prop := ∀ s k, v = some (s, k) → st = s ∧ ln = k

theorem gl_true {L : List UInt8} {p s l q : Nat} {has : Bool} (h : gVal L p = (has, s, l, q, true)) : ∃ v, rVal L p = some (v, q) ∧ has = v.isSome ∧ WV v s l := by
  unfold gVal at h
  cases hr : rVal L p with
  | none => rw [hr] at h; simp at h
  | some y =>
    obtain ⟨v, q'⟩ := y
    rw [hr] at h
    cases v with
    | none => simp at h; obtain ⟨rfl, rfl, rfl, rfl⟩ := h; exact ⟨none, rfl, rfl, fun s k hh => by cases hh⟩
    | some z => obtain ⟨a, c⟩ := z; simp at h; obtain ⟨rfl, rfl, rfl, rfl⟩ := h; exact ⟨some (a, c), rfl, rfl, fun s k hh => by cases hh; exact ⟨rfl, rfl⟩⟩
theorem gl_false {L : List UInt8} {p s l q : Nat} {has : Bool} (h : gVal L p = (has, s, l, q, false)) : rVal L p = none := by
  unfold gVal at h
  cases hr : rVal L p with
  | none => rfl
  | some y =>
    obtain ⟨v, q'⟩ := y
    rw [hr] at h
    cases v with
    | none => simp at h
    | some z => obtain ⟨a, c⟩ := z; simp at h
theorem gl_le {L : List UInt8} {p s l q : Nat} {has b : Bool} (hp : p ≤ L.length) (h : gVal L p = (has, s, l, q, b)) : s ≤ L.length ∧ l ≤ L.length ∧ q ≤ L.length := by
  unfold gVal at h
  cases hr : rVal L p with
  | none => rw [hr] at h; simp at h; obtain ⟨_, rfl, rfl, rfl, _⟩ := h; omega
  | some y =>
    obtain ⟨v, q'⟩ := y
    rw [hr] at h
    obtain ⟨h1, h2, h3⟩ := rVal_some hr
    cases v with
    | none => simp at h; obtain ⟨_, rfl, rfl, rfl, _⟩ := h; omega
    | some z =>
      obtain ⟨a, c⟩ := z
      simp at h
      obtain ⟨_, rfl, rfl, rfl, _⟩ := h
      have := (h3 _ _ rfl).1
      omega

section
variable {L : List UInt8} {p v1 v2 v3 v4 q1 q2 q3 q4 q5 st ln : Nat} {b1 b2 b3 b4 b5 has : Bool}
theorem ent_some (k1 : gVar L p = (v1, q1, true)) (k2 : gVar L q1 = (v2, q2, true)) (k3 : gVar L q2 = (v3, q3, true)) (k4 : gVar L q3 = (v4, q4, true)) (k5 : gVal L q4 = (has, st, ln, q5, true)) (h7 : ¬ 7 < v1) :
    ∃ v, rEnt L p = some (⟨v1, v2, v3, v4, v⟩, q5) ∧ has = v.isSome ∧ WV v st ln := by
  obtain ⟨v, h1, h2, h3⟩ := gl_true k5
  refine ⟨v, ?_, h2, h3⟩
  unfold rEnt
  simp only [gv_true k1, gv_true k2, gv_true k3, gv_true k4, h1, h7, if_false]
theorem ent_none (k1 : gVar L p = (v1, q1, b1)) (k2 : gVar L q1 = (v2, q2, b2)) (k3 : gVar L q2 = (v3, q3, b3)) (k4 : gVar L q3 = (v4, q4, b4)) (k5 : gVal L q4 = (has, st, ln, q5, b5)) (hno : b1 = true → b2 = true → b3 = true → b4 = true → b5 = true → 7 < v1) : rEnt L p = none := by
  cases b1 with
  | false => unfold rEnt; rw [gv_false k1]
  | true =>
    have r1 := gv_true k1
    cases b2 with
    | false => unfold rEnt; rw [r1]; simp only [gv_false k2]
    | true =>
      have r2 := gv_true k2
      by_cases h7 : 7 < v1
      · unfold rEnt; simp only [r1, r2, h7, if_true]
      · cases b3 with
        | false => unfold rEnt; simp only [r1, r2, h7, if_false, gv_false k3]
        | true =>
          have r3 := gv_true k3
          cases b4 with
          | false => unfold rEnt; simp only [r1, r2, r3, h7, if_false, gv_false k4]
          | true =>
            have r4 := gv_true k4
            cases b5 with
            | false => unfold rEnt; simp only [r1, r2, r3, r4, h7, if_false, gl_false k5]
            | true => exact absurd (hno rfl rfl rfl rfl rfl) h7
end

def zeroEnt : Array Value := #[.int .u64 0, .int .u64 0, .int .u64 0, .int .u64 0, .bool false, .int .i64 0, .int .i64 0]

def set7 (W : World) (R : Nat) (c0 c1 c2 c3 c4 c5 c6 : Value) : World :=
  ((((((W.setCell ⟨R, 0, none⟩ c0).setCell ⟨R, 1, none⟩ c1).setCell ⟨R, 2, none⟩ c2).setCell ⟨R, 3, none⟩ c3).setCell ⟨R, 4, none⟩ c4).setCell ⟨R, 5, none⟩ c5).setCell ⟨R, 6, none⟩ c6

theorem set7_heap (W : World) (R : Nat) (c0 c1 c2 c3 c4 c5 c6 d0 d1 d2 d3 d4 d5 d6 : Value) (h : W.heap[R]? = some (.cells #[d0, d1, d2, d3, d4, d5, d6] 54 (0, 0))) :
    (set7 W R c0 c1 c2 c3 c4 c5 c6).heap[R]? = some (.cells #[c0, c1, c2, c3, c4, c5, c6] 54 (0, 0)) := by
  unfold set7
  have h0 := heap_setCell_same W R 0 _ _ c0 h
  have h1 := heap_setCell_same _ R 1 _ _ c1 h0
  have h2 := heap_setCell_same _ R 2 _ _ c2 h1
  have h3 := heap_setCell_same _ R 3 _ _ c3 h2
  have h4 := heap_setCell_same _ R 4 _ _ c4 h3
  have h5 := heap_setCell_same _ R 5 _ _ c5 h4
  have h6 := heap_setCell_same _ R 6 _ _ c6 h5
  simpa using h6
theorem set7_other (W : World) (R X : Nat) (c0 c1 c2 c3 c4 c5 c6 : Value) (h : X ≠ R) : (set7 W R c0 c1 c2 c3 c4 c5 c6).heap[X]? = W.heap[X]? := by
  unfold set7
  simp only [Below.heap_setCell _ ⟨R, _, none⟩ _ X h]
theorem set7_below {B : Nat} {w W : World} (R : Nat) (c0 c1 c2 c3 c4 c5 c6 : Value) (h : Below B w W) (hR : B ≤ R) : Below B w (set7 W R c0 c1 c2 c3 c4 c5 c6) :=
  ((((((h.setCell (p := ⟨R, 0, none⟩) hR _).setCell (p := ⟨R, 1, none⟩) hR _).setCell (p := ⟨R, 2, none⟩) hR _).setCell (p := ⟨R, 3, none⟩) hR _).setCell (p := ⟨R, 4, none⟩) hR _).setCell (p := ⟨R, 5, none⟩) hR _).setCell (p := ⟨R, 6, none⟩) hR _

theorem res16 (W : World) (R : Nat) (c0 c1 c2 c3 c4 c5 c6 x5 x6 : Value) (tmps : Array Value) (h4 : tmps[4]? = some (.pointer (some ⟨R, 0, none⟩))) (h5 : tmps[5]? = some x5) (h6 : tmps[6]? = some x6) (hR : W.heap[R]? = some (.cells #[c0, c1, c2, c3, c4, c5, c6] 54 (0, 0))) :
    (results Tryf.f16 tmps).run Tryf.prog W = .ok (.tuple #[.agg #[c0, c1, c2, c3, c4, c5, c6], x5, x6]) W := by
  have q0 := cell_of_row W R 0 _ _ _ hR
  have q1 := cell_of_row W R 1 _ _ _ hR
  have q2 := cell_of_row W R 2 _ _ _ hR
  have q3 := cell_of_row W R 3 _ _ _ hR
  have q4 := cell_of_row W R 4 _ _ _ hR
  have q5 := cell_of_row W R 5 _ _ _ hR
  have q6 := cell_of_row W R 6 _ _ _ hR
  simp at q0 q1 q2 q3 q4 q5 q6
  simp [results, Tryf.results16, go_sem, h4, h5, h6, q0, q1, q2, q3, q4, q5, q6]

def RentPost (L : List UInt8) (p : Nat) (w : World) (e : Ending) (w' : World) : Prop :=
  (rEnt L p = none → ∃ (q : Nat), e = .returned (.tuple #[.agg #[.int .u64 0, .int .u64 0, .int .u64 0, .int .u64 0, .bool false, .int .i64 0, .int .i64 0], .int .i64 (q : Int), .bool false])) ∧
  (∀ en q, rEnt L p = some (en, q) → ∃ st ln : Nat, e = .returned (.tuple #[.agg #[.int .u64 (en.space : Int), .int .u64 (en.index : Int), .int .u64 (en.ballot : Int), .int .u64 (en.accepted : Int), .bool en.val.isSome, .int .i64 (st : Int), .int .i64 (ln : Int)], .int .i64 (q : Int), .bool true]) ∧ WV en.val st ln ∧ st ≤ L.length ∧ ln ≤ L.length) ∧
  Below w.heap.size w w'

theorem seven_cells {W : World} {R : Nat} {c0 c1 c2 c3 c4 c5 c6 : Value} (hR : W.heap[R]? = some (.cells #[c0, c1, c2, c3, c4, c5, c6] 54 (0, 0))) :
    W.cell? ⟨R, 0, none⟩ = some c0 ∧ W.cell? ⟨R, 1, none⟩ = some c1 ∧ W.cell? ⟨R, 2, none⟩ = some c2 ∧ W.cell? ⟨R, 3, none⟩ = some c3 ∧ W.cell? ⟨R, 4, none⟩ = some c4 ∧ W.cell? ⟨R, 5, none⟩ = some c5 ∧ W.cell? ⟨R, 6, none⟩ = some c6 ∧ ∀ k, W.frozen? ⟨R, k, none⟩ = false := by
  have q0 := cell_of_row W R 0 _ _ _ hR
  have q1 := cell_of_row W R 1 _ _ _ hR
  have q2 := cell_of_row W R 2 _ _ _ hR
  have q3 := cell_of_row W R 3 _ _ _ hR
  have q4 := cell_of_row W R 4 _ _ _ hR
  have q5 := cell_of_row W R 5 _ _ _ hR
  have q6 := cell_of_row W R 6 _ _ _ hR
  simp at q0 q1 q2 q3 q4 q5 q6
  exact ⟨q0, q1, q2, q3, q4, q5, q6, fun k => frozen_of_row W R k _ _ hR⟩

set_option maxRecDepth 100000 in
set_option maxHeartbeats 4000000 in
theorem rent_any (g cap : Nat) (L : List UInt8) (p : Nat) (w : World) (hp : p ≤ L.length) (hL : L.length ≤ 1048576) (hbuf : BufAt w g 0 L) (hgw : g < w.heap.size) :
    Calls Tryf.prog 16 #[.slice (some ⟨g, 0, none⟩) L.length cap, .int .i64 (p : Int)] w (RentPost L p w) := by
  obtain ⟨⟨v1, q1, b1⟩, k1⟩ : ∃ r, gVar L p = r := ⟨_, rfl⟩
  obtain ⟨⟨v2, q2, b2⟩, k2⟩ : ∃ r, gVar L q1 = r := ⟨_, rfl⟩
  obtain ⟨⟨v3, q3, b3⟩, k3⟩ : ∃ r, gVar L q2 = r := ⟨_, rfl⟩
  obtain ⟨⟨v4, q4, b4⟩, k4⟩ : ∃ r, gVar L q3 = r := ⟨_, rfl⟩
  obtain ⟨⟨has, st, ln, q5, b5⟩, k5⟩ : ∃ r, gVal L q4 = r := ⟨_, rfl⟩
  obtain ⟨hq1, hv1⟩ := gv_le hp k1
  obtain ⟨hq2, hv2⟩ := gv_le hq1 k2
  obtain ⟨hq3, hv3⟩ := gv_le hq2 k3
  obtain ⟨hq4, hv4⟩ := gv_le hq3 k4
  obtain ⟨hst, hln, hq5⟩ := gl_le hq4 k5
  obtain ⟨W2, hW2⟩ : ∃ W2, W2 = (w.alloc (.cells zeroEnt 54)).alloc (.cells zeroEnt 54) := ⟨_, rfl⟩
  have hbel : Below w.heap.size w W2 := by rw [hW2]; exact ((Below.refl _ w).alloc (Nat.le_refl _) _).alloc (by simp) _
  have hb2 : BufAt W2 g 0 L := buf_below hbuf hbel hgw
  have hR : W2.heap[w.heap.size]? = some (.cells zeroEnt 54 (0, 0)) := by
    rw [hW2, Below.heap_alloc _ _ _ (by simp)]
    exact heap_alloc_new _ _
  have hE : W2.heap[w.heap.size + 1]? = some (.cells zeroEnt 54 (0, 0)) := by
    rw [hW2]
    have := heap_alloc_new (w.alloc (.cells zeroEnt 54)) (.cells zeroEnt 54)
    rw [World.size_alloc] at this
    exact this
  have c1 := rv_any g cap L p W2 hp hL hb2
  have c2 := rv_any g cap L q1 W2 hq1 hL hb2
  have c3 := rv_any g cap L q2 W2 hq2 hL hb2
  have c4 := rv_any g cap L q3 W2 hq3 hL hb2
  have c5 := rvl_any g cap L q4 W2 hq4 hL hb2
  unfold RvPost at c1 c2 c3 c4
  unfold VvPost at c5
  rw [k1] at c1
  rw [k2] at c2
  rw [k3] at c3
  rw [k4] at c4
  rw [k5] at c5
  have HR : Hid (W2.heap[w.heap.size]? = some (.cells zeroEnt 54 (0, 0))) := hR
  have HE : Hid (W2.heap[w.heap.size + 1]? = some (.cells zeroEnt 54 (0, 0))) := hE
  have HBEL : Hid (Below w.heap.size w W2) := hbel
  have HSOME : Hid (b1 = true → b2 = true → b3 = true → b4 = true → b5 = true → ¬ 7 < v1 → ∃ v, rEnt L p = some (⟨v1, v2, v3, v4, v⟩, q5) ∧ has = v.isSome ∧ WV v st ln) := fun e1 e2 e3 e4 e5 h7 => by
    subst e1; subst e2; subst e3; subst e4; subst e5
    exact ent_some k1 k2 k3 k4 k5 h7
  have HNONE : Hid ((b1 = true → b2 = true → b3 = true → b4 = true → b5 = true → 7 < v1) → rEnt L p = none) := fun h => ent_none k1 k2 k3 k4 k5 h
  clear k1 k2 k3 k4 k5 hR hE hbel hb2 hbuf hq1 hq2 hq3 hq4 hq5
  go_enter Tryf.func16, Tryf.ntmps16
  go_wp2_with fail
  have e54 : (w.alloc (.cells #[.int .u64 0, .int .u64 0, .int .u64 0, .int .u64 0, .bool false, .int .i64 0, .int .i64 0] 54)).alloc (.cells #[.int .u64 0, .int .u64 0, .int .u64 0, .int .u64 0, .bool false, .int .i64 0, .int .i64 0] 54) = W2 := hW2.symm
  rw [e54]
  clear e54 hW2
  refine c1.mono ?_
  rintro e w' ⟨rfl, rfl⟩
  clear c1
  go_wp2_with fail
  refine c2.mono ?_
  rintro e w' ⟨rfl, rfl⟩
  clear c2
  go_wp2_with fail
  refine c3.mono ?_
  rintro e w' ⟨rfl, rfl⟩
  clear c3
  go_wp2_with fail
  refine c4.mono ?_
  rintro e w' ⟨rfl, rfl⟩
  clear c4
  go_wp2_with fail
  refine c5.mono ?_
  rintro e w' ⟨rfl, rfl⟩
  clear c5
  obtain ⟨r0, r1, r2, r3, r4, r5, r6, rf⟩ := seven_cells HR.out
  obtain ⟨x0, x1, x2, x3, x4, x5, x6, xf⟩ := seven_cells HE.out
  cases b1 with
  | false =>
    go_wp2_with fail
    refine bodyPost_ret (res16 _ w.heap.size _ _ _ _ _ _ _ _ _ _ rfl rfl rfl (set7_heap W2 w.heap.size (.int .u64 0) (.int .u64 0) (.int .u64 0) (.int .u64 0) (.bool false) (.int .i64 0) (.int .i64 0) _ _ _ _ _ _ _ HR.out)) rfl ?_
    exact ⟨fun _ => ⟨p, rfl⟩, fun en q h => absurd h (by rw [HNONE.out (fun e1 e2 e3 e4 e5 => by cases e1)]; simp), set7_below w.heap.size _ _ _ _ _ _ _ HBEL.out (Nat.le_refl _)⟩
  | true =>
    cases b2 with
    | false =>
      go_wp2_with fail
      refine bodyPost_ret (res16 _ w.heap.size _ _ _ _ _ _ _ _ _ _ rfl rfl rfl (set7_heap W2 w.heap.size (.int .u64 0) (.int .u64 0) (.int .u64 0) (.int .u64 0) (.bool false) (.int .i64 0) (.int .i64 0) _ _ _ _ _ _ _ HR.out)) rfl ?_
      exact ⟨fun _ => ⟨p, rfl⟩, fun en q h => absurd h (by rw [HNONE.out (fun e1 e2 e3 e4 e5 => by cases e2)]; simp), set7_below w.heap.size _ _ _ _ _ _ _ HBEL.out (Nat.le_refl _)⟩
    | true =>
      cases b3 with
      | false =>
        go_wp2_with fail
        refine bodyPost_ret (res16 _ w.heap.size _ _ _ _ _ _ _ _ _ _ rfl rfl rfl (set7_heap W2 w.heap.size (.int .u64 0) (.int .u64 0) (.int .u64 0) (.int .u64 0) (.bool false) (.int .i64 0) (.int .i64 0) _ _ _ _ _ _ _ HR.out)) rfl ?_
        exact ⟨fun _ => ⟨p, rfl⟩, fun en q h => absurd h (by rw [HNONE.out (fun e1 e2 e3 e4 e5 => by cases e3)]; simp), set7_below w.heap.size _ _ _ _ _ _ _ HBEL.out (Nat.le_refl _)⟩
      | true =>
        cases b4 with
        | false =>
          go_wp2_with fail
          refine bodyPost_ret (res16 _ w.heap.size _ _ _ _ _ _ _ _ _ _ rfl rfl rfl (set7_heap W2 w.heap.size (.int .u64 0) (.int .u64 0) (.int .u64 0) (.int .u64 0) (.bool false) (.int .i64 0) (.int .i64 0) _ _ _ _ _ _ _ HR.out)) rfl ?_
          exact ⟨fun _ => ⟨p, rfl⟩, fun en q h => absurd h (by rw [HNONE.out (fun e1 e2 e3 e4 e5 => by cases e4)]; simp), set7_below w.heap.size _ _ _ _ _ _ _ HBEL.out (Nat.le_refl _)⟩
        | true =>
          cases b5 with
          | false =>
            go_wp2_with fail
            refine bodyPost_ret (res16 _ w.heap.size _ _ _ _ _ _ _ _ _ _ rfl rfl rfl (set7_heap W2 w.heap.size (.int .u64 0) (.int .u64 0) (.int .u64 0) (.int .u64 0) (.bool false) (.int .i64 0) (.int .i64 0) _ _ _ _ _ _ _ HR.out)) rfl ?_
            exact ⟨fun _ => ⟨p, rfl⟩, fun en q h => absurd h (by rw [HNONE.out (fun e1 e2 e3 e4 e5 => by cases e5)]; simp), set7_below w.heap.size _ _ _ _ _ _ _ HBEL.out (Nat.le_refl _)⟩
          | true =>
            by_cases h7n : 7 < v1
            · have h7 : (7 : Int) < (v1 : Int) := by omega
              go_wp2_with fail
              refine bodyPost_ret (res16 _ w.heap.size _ _ _ _ _ _ _ _ _ _ rfl rfl rfl (set7_heap W2 w.heap.size (.int .u64 0) (.int .u64 0) (.int .u64 0) (.int .u64 0) (.bool false) (.int .i64 0) (.int .i64 0) _ _ _ _ _ _ _ HR.out)) rfl ?_
              exact ⟨fun _ => ⟨p, rfl⟩, fun en q h => absurd h (by rw [HNONE.out (fun _ _ _ _ _ => h7n)]; simp), set7_below w.heap.size _ _ _ _ _ _ _ HBEL.out (Nat.le_refl _)⟩
            · have h7 : ¬ (7 : Int) < (v1 : Int) := by omega
              obtain ⟨v, hr, hh, hwv⟩ := HSOME.out rfl rfl rfl rfl rfl (by omega)
              have HRS : Hid (rEnt L p = some (⟨v1, v2, v3, v4, v⟩, q5)) := hr
              have HWV : Hid (WV v st ln) := hwv
              subst hh
              clear hr hwv
              go_wp2_with fail
              refine bodyPost_ret (res16 _ w.heap.size _ _ _ _ _ _ _ _ _ _ rfl rfl rfl (set7_heap (set7 W2 (w.heap.size + 1) (.int .u64 (v1 : Int)) (.int .u64 (v2 : Int)) (.int .u64 (v3 : Int)) (.int .u64 (v4 : Int)) (.bool v.isSome) (.int .i64 (st : Int)) (.int .i64 (ln : Int))) w.heap.size (.int .u64 (v1 : Int)) (.int .u64 (v2 : Int)) (.int .u64 (v3 : Int)) (.int .u64 (v4 : Int)) (.bool v.isSome) (.int .i64 (st : Int)) (.int .i64 (ln : Int)) _ _ _ _ _ _ _ ((set7_other W2 (w.heap.size + 1) w.heap.size _ _ _ _ _ _ _ (by omega)).trans HR.out))) rfl ?_
              refine ⟨fun h => absurd h (by rw [HRS.out]; simp), fun en q h => ?_, set7_below w.heap.size _ _ _ _ _ _ _ (set7_below (w.heap.size + 1) _ _ _ _ _ _ _ HBEL.out (by omega)) (Nat.le_refl _)⟩
              have hpair := Prod.mk.inj (Option.some.inj (HRS.out.symm.trans h))
              obtain ⟨rfl, rfl⟩ := hpair
              exact ⟨st, ln, rfl, HWV.out, hst, hln⟩
end Go.Proofs.Qxb6616623aFmt
