/-
  zzB1Parse: the header and the entries.
-/
import Derived.Test.Qxb6616623aFmtParse0
namespace Go.Proofs.Qxb6616623aFmt
open Go.RowKit Go.Lib Go.Shelf
set_option linter.unusedVariables false

theorem Tryf.info54 : (Tryf.prog.info? 54).map (fun i => (i.zero, i.size, i.bytes)) = some (some (.agg zeroEnt), 7, 56) := by kernel_rfl

/-- What lies in memory on zzB1Parse's way. -/
structure PM (w wr : World) (c0 c1 c2 c3 c4 c5 c6 c7 c8 : Value) : Prop where
  below : Below w.heap.size w wr
  res : wr.heap[w.heap.size]? = some (.cells zeroWire 28 (0, 0))
  loc : wr.heap[w.heap.size + 1]? = some (.cells #[c0, c1, c2, c3, c4, c5, c6, c7, c8] 28 (0, 0))

theorem PM.size {w wr : World} {c0 c1 c2 c3 c4 c5 c6 c7 c8 : Value} (h : PM w wr c0 c1 c2 c3 c4 c5 c6 c7 c8) : w.heap.size + 2 ≤ wr.heap.size := block_lt h.loc
theorem PM.next {w wr wj : World} {c0 c1 c2 c3 c4 c5 c6 c7 c8 : Value} (h : PM w wr c0 c1 c2 c3 c4 c5 c6 c7 c8) (hb : Below wr.heap.size wr wj) : PM w wj c0 c1 c2 c3 c4 c5 c6 c7 c8 := by
  have hs := h.size
  exact ⟨h.below.trans (hb.mono (by omega)), (hb.block _ (by omega)).trans h.res, (hb.block _ (by omega)).trans h.loc⟩
theorem PM.grown {w wr wj : World} {row : Option Nat} {c0 c1 c2 c3 c4 c5 c6 c7 c8 : Value} (h : PM w wr c0 c1 c2 c3 c4 c5 c6 c7 c8) (hg : wr.grownBy wj row) (hrow : ∀ k, row = some k → w.heap.size + 2 ≤ k) : PM w wj c0 c1 c2 c3 c4 c5 c6 c7 c8 := by
  have hs := h.size
  refine ⟨h.below.grown hg (by omega) (fun k hk => by have := hrow k hk; omega), (hg.block _ (by omega) (fun hh => ?_)).trans h.res, (hg.block _ (by omega) (fun hh => ?_)).trans h.loc⟩
  · have := hrow _ hh.symm; omega
  · have := hrow _ hh.symm; omega
theorem PM.s8 {w wr : World} {c0 c1 c2 c3 c4 c5 c6 c7 c8 : Value} (h : PM w wr c0 c1 c2 c3 c4 c5 c6 c7 c8) (v : Value) : PM w (wr.setCell ⟨w.heap.size + 1, 8, none⟩ v) c0 c1 c2 c3 c4 c5 c6 c7 v :=
  ⟨h.below.setCell (p := ⟨w.heap.size + 1, 8, none⟩) (by show w.heap.size ≤ w.heap.size + 1; omega) v, (Below.heap_setCell wr ⟨w.heap.size + 1, 8, none⟩ v w.heap.size (by show w.heap.size ≠ w.heap.size + 1; omega)).trans h.res, (heap_setCell_same wr _ 8 _ _ v h.loc).trans (by simp)⟩

theorem pm_start {w W2 : World} (hb : Below w.heap.size w W2) (hR : W2.heap[w.heap.size]? = some (.cells zeroWire 28 (0, 0))) (hM : W2.heap[w.heap.size + 1]? = some (.cells zeroWire 28 (0, 0))) (c0 c1 c2 c3 c4 c5 c6 c7 : Value) :
    PM w ((((((((W2.setCell ⟨w.heap.size + 1, 0, none⟩ c0).setCell ⟨w.heap.size + 1, 1, none⟩ c1).setCell ⟨w.heap.size + 1, 2, none⟩ c2).setCell ⟨w.heap.size + 1, 3, none⟩ c3).setCell ⟨w.heap.size + 1, 4, none⟩ c4).setCell ⟨w.heap.size + 1, 5, none⟩ c5).setCell ⟨w.heap.size + 1, 6, none⟩ c6).setCell ⟨w.heap.size + 1, 7, none⟩ c7) c0 c1 c2 c3 c4 c5 c6 c7 (.slice none 0 0) := by
  have hle : w.heap.size ≤ w.heap.size + 1 := by omega
  refine ⟨((((((((hb.setCell (p := ⟨w.heap.size + 1, 0, none⟩) hle _).setCell (p := ⟨w.heap.size + 1, 1, none⟩) hle _).setCell (p := ⟨w.heap.size + 1, 2, none⟩) hle _).setCell (p := ⟨w.heap.size + 1, 3, none⟩) hle _).setCell (p := ⟨w.heap.size + 1, 4, none⟩) hle _).setCell (p := ⟨w.heap.size + 1, 5, none⟩) hle _).setCell (p := ⟨w.heap.size + 1, 6, none⟩) hle _).setCell (p := ⟨w.heap.size + 1, 7, none⟩) hle _), ?_, ?_⟩
  · have hne : w.heap.size ≠ w.heap.size + 1 := by omega
    simp only [Below.heap_setCell _ ⟨w.heap.size + 1, _, none⟩ _ w.heap.size hne]
    exact hR
  · have h0 := heap_setCell_same W2 _ 0 _ _ c0 hM
    have h1 := heap_setCell_same _ _ 1 _ _ c1 h0
    have h2 := heap_setCell_same _ _ 2 _ _ c2 h1
    have h3 := heap_setCell_same _ _ 3 _ _ c3 h2
    have h4 := heap_setCell_same _ _ 4 _ _ c4 h3
    have h5 := heap_setCell_same _ _ 5 _ _ c5 h4
    have h6 := heap_setCell_same _ _ 6 _ _ c6 h5
    have h7 := heap_setCell_same _ _ 7 _ _ c7 h6
    simpa [zeroWire] using h7

theorem owns_below {w wj : World} {B e s n : Nat} {v : Value} {xs : List Value} (h : w.ownsRow B e s v n xs) (hb : Below w.heap.size w wj) : wj.ownsRow B e s v n xs := by
  refine ⟨h.1, ?_⟩
  rcases h.2 with h' | ⟨g, cap, cur, h1, h2, hg, h3⟩
  · exact .inl h'
  · exact .inr ⟨g, cap, cur, h1, h2, (hb.block g (block_lt hg)).trans hg, h3⟩

theorem owns_set9 {w : World} {B T s n R : Nat} {v : Value} {xs : List Value} {c0 c1 c2 c3 c4 c5 c6 c7 c8 : Value} (h : w.ownsRow B T s v n xs) (hR : R < B) : (set9 w R c0 c1 c2 c3 c4 c5 c6 c7 c8).ownsRow R T s v n xs := by
  refine ⟨h.1, ?_⟩
  rcases h.2 with h' | ⟨g, cap, cur, h1, h2, hg, h3⟩
  · exact .inl h'
  · refine .inr ⟨g, cap, cur, h1, by omega, ?_, h3⟩
    unfold set9
    have hne : g ≠ R := by omega
    simp only [Below.heap_setCell _ ⟨R, _, none⟩ _ g hne]
    exact hg
theorem owns_set {w : World} {B T s n R k : Nat} {v x : Value} {xs : List Value} (h : w.ownsRow B T s v n xs) (hR : R < B) : (w.setCell ⟨R, k, none⟩ x).ownsRow B T s v n xs := by
  refine ⟨h.1, ?_⟩
  rcases h.2 with h' | ⟨g, cap, cur, h1, h2, hg, h3⟩
  · exact .inl h'
  · exact .inr ⟨g, cap, cur, h1, h2, (Below.heap_setCell w ⟨R, k, none⟩ x g (by show g ≠ R; omega)).trans hg, h3⟩

theorem owns_form {w : World} {B T s n : Nat} {v : Value} {xs : List Value} (h : w.ownsRow B T s v n xs) (hn : 0 < n) : ∃ g c, v = .slice (some ⟨g, 0, none⟩) n c := by
  rcases h.2 with ⟨_, h'⟩ | ⟨g, cap, cur, h1, _⟩
  · omega
  · exact ⟨g, cap, h1⟩
theorem set9_size (W : World) (R : Nat) (c0 c1 c2 c3 c4 c5 c6 c7 c8 : Value) : (set9 W R c0 c1 c2 c3 c4 c5 c6 c7 c8).heap.size = W.heap.size := by
  unfold set9
  simp

theorem rEnt_end {L : List UInt8} {p : Nat} (h : L.length ≤ p) : rEnt L p = none := by
  cases hr : rEnt L p with
  | none => rfl
  | some y => obtain ⟨e, q⟩ := y; have := rEnt_some hr; omega

theorem rEnts_stop {L : List UInt8} {p j q c : Nat} {es : List Ent} (h : rEnts L p j = some (es, q)) (hr : rEnt L q = none) (hj : j < c) : rEnts L p c = none := by
  have h1 : rEnts L p (j + 1) = none := by
    unfold rEnts
    rw [h]
    simp only [hr]
  obtain ⟨m, rfl⟩ : ∃ m, c = j + 1 + m := ⟨c - (j + 1), by omega⟩
  exact rEnts_none_le h1 m

theorem rEnts_more {L : List UInt8} {p j q r : Nat} {es : List Ent} {e : Ent} (h : rEnts L p j = some (es, q)) (hr : rEnt L q = some (e, r)) : rEnts L p (j + 1) = some (es ++ [e], r) := by
  unfold rEnts
  rw [h]
  simp only [hr]

/-- One more entry. -/
theorem went_more {N : Nat} {es : List Ent} {xs : List Value} {e : Ent} {st ln : Nat} (hl : xs.length = es.length * 7) (h : ∀ i (h : i < es.length), WEnt N es[i] xs i) (hv : WV e.val st ln) (hst : st ≤ N) (hln : ln ≤ N) :
    ∀ i (h : i < (es ++ [e]).length), WEnt N (es ++ [e])[i] (xs ++ [.int .u64 (e.space : Int), .int .u64 (e.index : Int), .int .u64 (e.ballot : Int), .int .u64 (e.accepted : Int), .bool e.val.isSome, .int .i64 (st : Int), .int .i64 (ln : Int)]) i := by
  intro i hi
  by_cases hij : i < es.length
  · rw [List.getElem_append_left hij]
    obtain ⟨s, l, h0, h1, h2, h3, h4, h5, h6, h7⟩ := h i hij
    refine ⟨s, l, ?_, ?_, ?_, ?_, ?_, ?_, ?_, h7⟩ <;> rw [List.getElem?_append_left (by omega)] <;> assumption
  · have : i = es.length := by rw [List.length_append] at hi; simp at hi; omega
    subst this
    rw [List.getElem_append_right (by omega)]
    simp only [Nat.sub_self, List.getElem_cons_zero]
    refine ⟨st, ln, ?_, ?_, ?_, ?_, ?_, ?_, ?_, hv, hst, hln⟩ <;> rw [List.getElem?_append_right (by omega), hl] <;> simp

section
variable {L : List UInt8} {v1 v2 v3 v5 q1 q2 q3 q4 q5 st ln : Nat} {b1 b2 b3 b4 b5 has : Bool}
theorem head_some (k1 : gVar L 1 = (v1, q1, true)) (k2 : gVar L q1 = (v2, q2, true)) (k3 : gVar L q2 = (v3, q3, true)) (k4 : gVal L q3 = (has, st, ln, q4, true)) (k5 : gVar L q4 = (v5, q5, true)) :
    ∃ v, rHead L = some ((v1, v2, v3, v, v5), q5) ∧ has = v.isSome ∧ WV v st ln := by
  obtain ⟨v, h1, h2, h3⟩ := gl_true k4
  refine ⟨v, ?_, h2, h3⟩
  unfold rHead
  simp only [gv_true k1, gv_true k2, gv_true k3, gv_true k5, h1]
theorem head_none (k1 : gVar L 1 = (v1, q1, b1)) (k2 : gVar L q1 = (v2, q2, b2)) (k3 : gVar L q2 = (v3, q3, b3)) (k4 : gVal L q3 = (has, st, ln, q4, b4)) (k5 : gVar L q4 = (v5, q5, b5)) (hno : b1 = true → b2 = true → b3 = true → b4 = true → b5 = true → False) : rHead L = none := by
  cases b1 with
  | false => unfold rHead; rw [gv_false k1]
  | true =>
    have r1 := gv_true k1
    cases b2 with
    | false => unfold rHead; rw [r1]; simp only [gv_false k2]
    | true =>
      have r2 := gv_true k2
      cases b3 with
      | false => unfold rHead; simp only [r1, r2, gv_false k3]
      | true =>
        have r3 := gv_true k3
        cases b4 with
        | false => unfold rHead; simp only [r1, r2, r3, gl_false k4]
        | true =>
          obtain ⟨v, r4, _⟩ := gl_true k4
          cases b5 with
          | false => unfold rHead; simp only [r1, r2, r3, r4, gv_false k5]
          | true => exact absurd (hno rfl rfl rfl rfl rfl) (by simp)
end

set_option maxRecDepth 100000 in
set_option maxHeartbeats 8000000 in
theorem parse_main (g cap : Nat) (L : List UInt8) (w : World) (hn : 0 < L.length) (hL : L.length ≤ 1048576) (hbuf : BufAt w g 0 L) (hgw : g < w.heap.size) (b t : Nat) (sy : Bool) (hby : w.cell? ⟨g, 0, none⟩ = some (.int .u8 (b : Int))) (hbit : bits .and .u8 (b : Int) 127 = (t : Int)) (hsy : decide ((128 : Int) ≤ (b : Int)) = sy) (ht1 : 1 ≤ t) (ht2 : t ≤ 21)
    (hdh : rHead L = none → decodeM L = none) (hde : ∀ {v1 v2 v3 v5 p : Nat} {x4 : Option (Nat × Nat)}, rHead L = some ((v1, v2, v3, x4, v5), p) → (∀ es, rEnts L p v5 = some (es, L.length) → decodeM L = some ⟨t, sy, v1, v2, v3, x4, es⟩) ∧ ((∀ es, rEnts L p v5 ≠ some (es, L.length)) → decodeM L = none)) :
    Calls Tryf.prog 8 #[.slice (some ⟨g, 0, none⟩) L.length cap] w (ParsePost L w) := by
  obtain ⟨⟨v1, q1, b1⟩, k1⟩ : ∃ r, gVar L 1 = r := ⟨_, rfl⟩
  obtain ⟨⟨v2, q2, b2⟩, k2⟩ : ∃ r, gVar L q1 = r := ⟨_, rfl⟩
  obtain ⟨⟨v3, q3, b3⟩, k3⟩ : ∃ r, gVar L q2 = r := ⟨_, rfl⟩
  obtain ⟨⟨has, st, ln, q4, b4⟩, k4⟩ : ∃ r, gVal L q3 = r := ⟨_, rfl⟩
  obtain ⟨⟨v5, q5, b5⟩, k5⟩ : ∃ r, gVar L q4 = r := ⟨_, rfl⟩
  obtain ⟨hq1, hv1⟩ := gv_le (show 1 ≤ L.length from hn) k1
  obtain ⟨hq2, hv2⟩ := gv_le hq1 k2
  obtain ⟨hq3, hv3⟩ := gv_le hq2 k3
  obtain ⟨hst, hln, hq4⟩ := gl_le hq3 k4
  obtain ⟨hq5, hv5⟩ := gv_le hq4 k5
  obtain ⟨W2, hW2⟩ : ∃ W2, W2 = W28 w := ⟨_, rfl⟩
  have hbel : Below w.heap.size w W2 := by rw [hW2]; exact w28_below w
  have hb2 : BufAt W2 g 0 L := buf_below hbuf hbel hgw
  have hR : W2.heap[w.heap.size]? = some (.cells zeroWire 28 (0, 0)) := by rw [hW2]; exact w28_R w
  have hE : W2.heap[w.heap.size + 1]? = some (.cells zeroWire 28 (0, 0)) := by rw [hW2]; exact w28_M w
  have c1 := rv_any g cap L 1 W2 hn hL hb2
  have c2 := rv_any g cap L q1 W2 hq1 hL hb2
  have c3 := rv_any g cap L q2 W2 hq2 hL hb2
  have c4 := rvl_any g cap L q3 W2 hq3 hL hb2
  have c5 := rv_any g cap L q4 W2 hq4 hL hb2
  unfold RvPost at c1 c2 c3 c5
  unfold VvPost at c4
  rw [k1] at c1
  rw [k2] at c2
  rw [k3] at c3
  rw [k4] at c4
  rw [k5] at c5
  have hby2 : W2.cell? ⟨g, 0, none⟩ = some (.int .u8 (b : Int)) := (hbel.cell (p := ⟨g, 0, none⟩) hgw).trans hby
  have HBY2 : Hid (W2.cell? ⟨g, 0, none⟩ = some (.int .u8 (b : Int))) := hby2
  have HR : Hid (W2.heap[w.heap.size]? = some (.cells zeroWire 28 (0, 0))) := hR
  have HE : Hid (W2.heap[w.heap.size + 1]? = some (.cells zeroWire 28 (0, 0))) := hE
  have HBEL : Hid (Below w.heap.size w W2) := hbel
  have HBUF : Hid (BufAt w g 0 L) := hbuf
  have HSOME : Hid (b1 = true → b2 = true → b3 = true → b4 = true → b5 = true → ∃ v, rHead L = some ((v1, v2, v3, v, v5), q5) ∧ has = v.isSome ∧ WV v st ln) := fun e1 e2 e3 e4 e5 => by
    subst e1; subst e2; subst e3; subst e4; subst e5
    exact head_some k1 k2 k3 k4 k5
  have HNONE : Hid ((b1 = true → b2 = true → b3 = true → b4 = true → b5 = true → False) → decodeM L = none) := fun h => hdh (head_none k1 k2 k3 k4 k5 h)
  have HDE : Hid (∀ {v1 v2 v3 v5 p : Nat} {x4 : Option (Nat × Nat)}, rHead L = some ((v1, v2, v3, x4, v5), p) → (∀ es, rEnts L p v5 = some (es, L.length) → decodeM L = some ⟨t, sy, v1, v2, v3, x4, es⟩) ∧ ((∀ es, rEnts L p v5 ≠ some (es, L.length)) → decodeM L = none)) := hde
  have hn0 : ((L.length : Int) == 0) = false := by rw [beq_eq_false_iff_ne]; omega
  have hnI : (0 : Int) < (L.length : Int) := by omega
  have hlt1 : g < w.heap.size + 1 := by omega
  have ht1I : ¬ (t : Int) < 1 := by omega
  have ht2I : ¬ (21 : Int) < (t : Int) := by omega
  clear k1 k2 k3 k4 k5 hR hE hbel hb2 hbuf hq1 hq2 hq3 hq4 hdh hde hby2
  go_enter Tryf.func8, Tryf.ntmps8
  go_wp2_with fail
  have e28 : (w.alloc (.cells #[.int .u8 0, .bool false, .int .u64 0, .int .u64 0, .int .u64 0, .bool false, .int .i64 0, .int .i64 0, .slice none 0 0] 28)).alloc (.cells #[.int .u8 0, .bool false, .int .u64 0, .int .u64 0, .int .u64 0, .bool false, .int .i64 0, .int .i64 0, .slice none 0 0] 28) = W2 := hW2.symm
  rw [e28]
  clear e28 hW2 hby hbit
  refine c1.mono ?_
  rintro e w' ⟨rfl, rfl⟩
  clear c1
  go_wp2_with fail
  refine c2.mono ?_
  rintro e w' ⟨rfl, rfl⟩
  clear c2
  go_wp2_with fail
  refine c3.mono ?_
  rintro e w' ⟨rfl, rfl⟩
  clear c3
  go_wp2_with fail
  refine c4.mono ?_
  rintro e w' ⟨rfl, rfl⟩
  clear c4
  go_wp2_with fail
  refine c5.mono ?_
  rintro e w' ⟨rfl, rfl⟩
  clear c5
  obtain ⟨r0, r1, r2, r3, r4, r5, r6, r7, r8, rf⟩ := nine_of HR.out
  obtain ⟨x0, x1, x2, x3, x4, x5, x6, x7, x8, xf⟩ := nine_of HE.out
  cases b1 with
  | false =>
    go_wp2_with fail
    refine bodyPost_ret (res8 _ w.heap.size _ _ _ _ _ _ _ _ _ _ _ rfl rfl (set9_heapT W2 w.heap.size (.int .u8 0) (.bool false) (.int .u64 0) (.int .u64 0) (.int .u64 0) (.bool false) (.int .i64 0) (.int .i64 0) (.slice none 0 0) _ _ _ _ _ _ _ _ _ HR.out)) rfl ?_
    exact ⟨fun _ => ⟨⟨_, _, _, _, _, _, _, _, _, _, _, rfl⟩, set9_below w.heap.size _ _ _ _ _ _ _ _ _ HBEL.out (Nat.le_refl _)⟩, fun m h => absurd h (by rw [HNONE.out (fun e1 e2 e3 e4 e5 => by cases e1)]; simp)⟩
  | true =>
    cases b2 with
    | false =>
      go_wp2_with fail
      refine bodyPost_ret (res8 _ w.heap.size _ _ _ _ _ _ _ _ _ _ _ rfl rfl (set9_heapT W2 w.heap.size (.int .u8 0) (.bool false) (.int .u64 0) (.int .u64 0) (.int .u64 0) (.bool false) (.int .i64 0) (.int .i64 0) (.slice none 0 0) _ _ _ _ _ _ _ _ _ HR.out)) rfl ?_
      exact ⟨fun _ => ⟨⟨_, _, _, _, _, _, _, _, _, _, _, rfl⟩, set9_below w.heap.size _ _ _ _ _ _ _ _ _ HBEL.out (Nat.le_refl _)⟩, fun m h => absurd h (by rw [HNONE.out (fun e1 e2 e3 e4 e5 => by cases e2)]; simp)⟩
    | true =>
      cases b3 with
      | false =>
        go_wp2_with fail
        refine bodyPost_ret (res8 _ w.heap.size _ _ _ _ _ _ _ _ _ _ _ rfl rfl (set9_heapT W2 w.heap.size (.int .u8 0) (.bool false) (.int .u64 0) (.int .u64 0) (.int .u64 0) (.bool false) (.int .i64 0) (.int .i64 0) (.slice none 0 0) _ _ _ _ _ _ _ _ _ HR.out)) rfl ?_
        exact ⟨fun _ => ⟨⟨_, _, _, _, _, _, _, _, _, _, _, rfl⟩, set9_below w.heap.size _ _ _ _ _ _ _ _ _ HBEL.out (Nat.le_refl _)⟩, fun m h => absurd h (by rw [HNONE.out (fun e1 e2 e3 e4 e5 => by cases e3)]; simp)⟩
      | true =>
        cases b4 with
        | false =>
          go_wp2_with fail
          refine bodyPost_ret (res8 _ w.heap.size _ _ _ _ _ _ _ _ _ _ _ rfl rfl (set9_heapT W2 w.heap.size (.int .u8 0) (.bool false) (.int .u64 0) (.int .u64 0) (.int .u64 0) (.bool false) (.int .i64 0) (.int .i64 0) (.slice none 0 0) _ _ _ _ _ _ _ _ _ HR.out)) rfl ?_
          exact ⟨fun _ => ⟨⟨_, _, _, _, _, _, _, _, _, _, _, rfl⟩, set9_below w.heap.size _ _ _ _ _ _ _ _ _ HBEL.out (Nat.le_refl _)⟩, fun m h => absurd h (by rw [HNONE.out (fun e1 e2 e3 e4 e5 => by cases e4)]; simp)⟩
        | true =>
          cases b5 with
          | false =>
            go_wp2_with fail
            refine bodyPost_ret (res8 _ w.heap.size _ _ _ _ _ _ _ _ _ _ _ rfl rfl (set9_heapT W2 w.heap.size (.int .u8 0) (.bool false) (.int .u64 0) (.int .u64 0) (.int .u64 0) (.bool false) (.int .i64 0) (.int .i64 0) (.slice none 0 0) _ _ _ _ _ _ _ _ _ HR.out)) rfl ?_
            exact ⟨fun _ => ⟨⟨_, _, _, _, _, _, _, _, _, _, _, rfl⟩, set9_below w.heap.size _ _ _ _ _ _ _ _ _ HBEL.out (Nat.le_refl _)⟩, fun m h => absurd h (by rw [HNONE.out (fun e1 e2 e3 e4 e5 => by cases e5)]; simp)⟩
          | true =>
            obtain ⟨v, hr, hh, hwv⟩ := HSOME.out rfl rfl rfl rfl rfl
            obtain ⟨d1, d2⟩ := HDE.out hr
            have D1 : Hid (∀ es, rEnts L q5 v5 = some (es, L.length) → decodeM L = some ⟨t, sy, v1, v2, v3, v, es⟩) := d1
            have D2 : Hid ((∀ es, rEnts L q5 v5 ≠ some (es, L.length)) → decodeM L = none) := d2
            have HWV : Hid (WV v st ln) := hwv
            subst hh
            have hbyt := HBY2.out
            obtain ⟨i0, hi0, hz0, hz1, hz2⟩ := info_parts Tryf.info54
            clear hr hwv d1 d2 HSOME HNONE HDE
            go_wp2_with fail
            have P0 := pm_start HBEL.out HR.out HE.out (.int .u8 (t : Int)) (.bool sy) (.int .u64 (v1 : Int)) (.int .u64 (v2 : Int)) (.int .u64 (v3 : Int)) (.bool v.isSome) (.int .i64 (st : Int)) (.int .i64 (ln : Int))
            have P0' : Hid (PM w _ (.int .u8 (t : Int)) (.bool sy) (.int .u64 (v1 : Int)) (.int .u64 (v2 : Int)) (.int .u64 (v3 : Int)) (.bool v.isSome) (.int .i64 (st : Int)) (.int .i64 (ln : Int)) (.slice none 0 0)) := P0
            clear P0 r0 r1 r2 r3 r4 r5 r6 r7 r8 rf x0 x1 x2 x3 x4 x5 x6 x7 x8 xf hbyt
            go_loopw [21, 23] (fun a c wr => ∃ (j q : Nat) (es : List Ent) (ea : Option Addr) (en ec : Nat) (xs : List Value), j ≤ v5 ∧ a = .int .i64 (q : Int) ∧ c = .int .u64 (j : Int) ∧ q ≤ L.length ∧ rEnts L q5 j = some (es, q) ∧ PM w wr (.int .u8 (t : Int)) (.bool sy) (.int .u64 (v1 : Int)) (.int .u64 (v2 : Int)) (.int .u64 (v3 : Int)) (.bool v.isSome) (.int .i64 (st : Int)) (.int .i64 (ln : Int)) (.slice ea en ec) ∧ wr.ownsRow (w.heap.size + 2) 54 7 (.slice ea en ec) j xs ∧ es.length = j ∧ ∀ i (h : i < es.length), WEnt L.length es[i] xs i) (fun a _ _ => L.length - (RowKit.intOf a).toNat)
            case atStart => exact ⟨0, q5, [], none, 0, 0, [], Nat.zero_le _, rfl, rfl, hq5, rfl, P0'.out, World.ownsRow_nil _ _ _ _, rfl, fun i h => by simp at h⟩
            case round =>
              obtain ⟨j, q, es, ea, en, ec, xs, hj, rfl, rfl, hq, her, hpm, how, hel, hwe⟩ := hrel
              have PR : Hid (PM w wr (.int .u8 (t : Int)) (.bool sy) (.int .u64 (v1 : Int)) (.int .u64 (v2 : Int)) (.int .u64 (v3 : Int)) (.bool v.isSome) (.int .i64 (st : Int)) (.int .i64 (ln : Int)) (.slice ea en ec)) := hpm
              have OR : Hid (wr.ownsRow (w.heap.size + 2) 54 7 (.slice ea en ec) j xs) := how
              have ER : Hid (rEnts L q5 j = some (es, q)) := her
              have WR : Hid (∀ i (h : i < es.length), WEnt L.length es[i] xs i) := hwe
              have hjL : j ≤ 1048576 := by have := rEnts_some hq5 her; omega
              have hsz := hpm.size
              clear hpm how her hwe P0'
              by_cases hjv : j < v5
              · by_cases hql : q < L.length
                · have cr := rent_any g cap L q wr hq hL (buf_below HBUF.out PR.out.below hgw) (by omega)
                  go_wp2_with fail
                  refine cr.mono ?_
                  intro e wq hp
                  have P1 : Hid (PM w wq (.int .u8 (t : Int)) (.bool sy) (.int .u64 (v1 : Int)) (.int .u64 (v2 : Int)) (.int .u64 (v3 : Int)) (.bool v.isSome) (.int .i64 (st : Int)) (.int .i64 (ln : Int)) (.slice ea en ec)) := PR.out.next hp.2.2
                  have hsq := P1.out.size
                  cases hre : rEnt L q with
                  | none =>
                    obtain ⟨q', rfl⟩ := hp.1 hre
                    have HD : Hid (decodeM L = none) := D2.out fun es' h' => by rw [rEnts_stop ER.out hre hjv] at h'; cases h'
                    clear hp hre cr
                    obtain ⟨r0, r1, r2, r3, r4, r5, r6, r7, r8, rf⟩ := nine_of P1.out.res
                    obtain ⟨x0, x1, x2, x3, x4, x5, x6, x7, x8, xf⟩ := nine_of P1.out.loc
                    have hRl : w.heap.size < wq.heap.size := by omega
                    have hMl : w.heap.size + 1 < wq.heap.size := by omega
                    go_wp2_with fail
                    refine bodyPost_ret (res8 _ w.heap.size _ _ _ _ _ _ _ _ _ _ _ rfl rfl ((Below.heap_alloc (set9 wq w.heap.size (.int .u8 (t : Int)) (.bool sy) (.int .u64 (v1 : Int)) (.int .u64 (v2 : Int)) (.int .u64 (v3 : Int)) (.bool v.isSome) (.int .i64 (st : Int)) (.int .i64 (ln : Int)) (.slice ea en ec)) _ w.heap.size (by rw [set9_size]; exact hRl)).trans (set9_heapT wq w.heap.size (.int .u8 (t : Int)) (.bool sy) (.int .u64 (v1 : Int)) (.int .u64 (v2 : Int)) (.int .u64 (v3 : Int)) (.bool v.isSome) (.int .i64 (st : Int)) (.int .i64 (ln : Int)) (.slice ea en ec) _ _ _ _ _ _ _ _ _ P1.out.res))) rfl ?_
                    exact ⟨fun _ => ⟨⟨_, _, _, _, _, _, _, _, _, _, _, rfl⟩, (set9_below w.heap.size _ _ _ _ _ _ _ _ _ P1.out.below (Nat.le_refl _)).alloc (by rw [set9_size]; omega) _⟩, fun m h => absurd h (by rw [HD.out]; simp)⟩
                  | some y =>
                    obtain ⟨en', q'⟩ := y
                    obtain ⟨st', ln', rfl, hwv', hst', hln'⟩ := hp.2.1 _ _ hre
                    have O1 : Hid (wq.ownsRow (w.heap.size + 2) 54 7 (.slice ea en ec) j xs) := owns_below OR.out hp.2.2
                    obtain ⟨hqq1, hqq2, _⟩ := rEnt_some hre
                    have ER1 : Hid (rEnts L q5 (j + 1) = some (es ++ [en'], q')) := rEnts_more ER.out hre
                    have WR1 : Hid (∀ i (h : i < (es ++ [en']).length), WEnt L.length (es ++ [en'])[i] (xs ++ [.int .u64 (en'.space : Int), .int .u64 (en'.index : Int), .int .u64 (en'.ballot : Int), .int .u64 (en'.accepted : Int), .bool en'.val.isSome, .int .i64 (st' : Int), .int .i64 (ln' : Int)]) i) := went_more (by rw [hel]; exact OR.out.1) WR.out hwv' hst' hln'
                    clear hp hre cr hwv' hst' hln'
                    obtain ⟨x0, x1, x2, x3, x4, x5, x6, x7, x8, xf⟩ := nine_of P1.out.loc
                    have hMl : w.heap.size + 1 < wq.heap.size := by omega
                    go_wp2_with (first
                      | (at_builtin; refine wpList_append_own _ rfl _ _ 26 rfl (w.heap.size + 2) 54 i0 (.agg zeroEnt) 7 56 Tryf.underlying26 hi0 hz0 hz1 hz2 rfl (by decide) _ _ _ rfl ((O1.out.alloc _).alloc _) ⟨wq.heap.size + 1, 0, none⟩ 1 1 [.int .u64 (en'.space : Int), .int .u64 (en'.index : Int), .int .u64 (en'.ballot : Int), .int .u64 (en'.accepted : Int), .bool en'.val.isSome, .int .i64 (st' : Int), .int .i64 (ln' : Int)] rfl rfl ?k1 ?k2 ?k3 ?k4 ?k5 ?_)
                      | fail)
                    case k1 =>
                      intro k u hk
                      match k, hk with
                      | 0, hk => simp at hk; subst hk; simp [Addr.add]
                      | 1, hk => simp at hk; subst hk; simp [Addr.add]
                      | 2, hk => simp at hk; subst hk; simp [Addr.add]
                      | 3, hk => simp at hk; subst hk; simp [Addr.add]
                      | 4, hk => simp at hk; subst hk; simp [Addr.add]
                      | 5, hk => simp at hk; subst hk; simp [Addr.add]
                      | 6, hk => simp at hk; subst hk; simp [Addr.add]
                      | k + 7, hk => simp at hk
                    case k2 =>
                      intro u hu
                      simp at hu
                      rcases hu with rfl | rfl | rfl | rfl | rfl | rfl | rfl <;> rfl
                    case k3 => unfold maxLen; omega
                    case k4 => omega
                    case k5 => simp; omega
                    intro v' w4 hown' hgrow _
                    have P2 := (P1.out.grown (gb_alloc wq (.cells #[.int .u64 (en'.space : Int), .int .u64 (en'.index : Int), .int .u64 (en'.ballot : Int), .int .u64 (en'.accepted : Int), .bool en'.val.isSome, .int .i64 (st' : Int), .int .i64 (ln' : Int)] 54) none) (fun k h => by cases h)).grown (gb_alloc _ (.cells #[.int .u64 (en'.space : Int), .int .u64 (en'.index : Int), .int .u64 (en'.ballot : Int), .int .u64 (en'.accepted : Int), .bool en'.val.isSome, .int .i64 (st' : Int), .int .i64 (ln' : Int)] 54) none) (fun k h => by cases h)
                    have P4 : Hid (PM w w4 (.int .u8 (t : Int)) (.bool sy) (.int .u64 (v1 : Int)) (.int .u64 (v2 : Int)) (.int .u64 (v3 : Int)) (.bool v.isSome) (.int .i64 (st : Int)) (.int .i64 (ln : Int)) (.slice ea en ec)) := P2.grown hgrow (fun k hk => (O1.out.lt k hk).1)
                    obtain ⟨g4, cc4, hv4⟩ := owns_form hown' (by omega)
                    subst hv4
                    have O4 : Hid (w4.ownsRow (w.heap.size + 2) 54 7 (.slice (some ⟨g4, 0, none⟩) (j + 1) cc4) (j + 1) (xs ++ [.int .u64 (en'.space : Int), .int .u64 (en'.index : Int), .int .u64 (en'.ballot : Int), .int .u64 (en'.accepted : Int), .bool en'.val.isSome, .int .i64 (st' : Int), .int .i64 (ln' : Int)])) := hown'
                    clear hown' hgrow P2 x0 x1 x2 x3 x4 x5 x6 x7 x8 xf
                    obtain ⟨x0, x1, x2, x3, x4, x5, x6, x7, x8, xf⟩ := nine_of P4.out.loc
                    go_wp2_with fail
                    go_roundw
                    case rel => exact ⟨j + 1, q', es ++ [en'], some ⟨g4, 0, none⟩, j + 1, cc4, _, by omega, rfl, by simp, hqq2, ER1.out, P4.out.s8 _, owns_set O4.out (by omega), by rw [List.length_append]; simp; omega, WR1.out⟩
                    case measure => simp [RowKit.intOf]; omega
                · have hqe : q = L.length := by omega
                  subst hqe
                  have HD : Hid (decodeM L = none) := D2.out fun es' h' => by rw [rEnts_stop ER.out (rEnt_end (Nat.le_refl _)) hjv] at h'; cases h'
                  obtain ⟨r0, r1, r2, r3, r4, r5, r6, r7, r8, rf⟩ := nine_of PR.out.res
                  obtain ⟨x0, x1, x2, x3, x4, x5, x6, x7, x8, xf⟩ := nine_of PR.out.loc
                  go_wp2_with fail
                  refine bodyPost_ret (res8 _ w.heap.size _ _ _ _ _ _ _ _ _ _ _ rfl rfl (set9_heapT wr w.heap.size (.int .u8 (t : Int)) (.bool sy) (.int .u64 (v1 : Int)) (.int .u64 (v2 : Int)) (.int .u64 (v3 : Int)) (.bool v.isSome) (.int .i64 (st : Int)) (.int .i64 (ln : Int)) (.slice ea en ec) _ _ _ _ _ _ _ _ _ PR.out.res)) rfl ?_
                  exact ⟨fun _ => ⟨⟨_, _, _, _, _, _, _, _, _, _, _, rfl⟩, set9_below w.heap.size _ _ _ _ _ _ _ _ _ PR.out.below (Nat.le_refl _)⟩, fun m h => absurd h (by rw [HD.out]; simp)⟩
              · have hje : j = v5 := by omega
                subst hje
                obtain ⟨r0, r1, r2, r3, r4, r5, r6, r7, r8, rf⟩ := nine_of PR.out.res
                obtain ⟨x0, x1, x2, x3, x4, x5, x6, x7, x8, xf⟩ := nine_of PR.out.loc
                by_cases hql : q = L.length
                · subst hql
                  have HD : Hid (decodeM L = some ⟨t, sy, v1, v2, v3, v, es⟩) := D1.out es ER.out
                  go_wp2_with fail
                  refine bodyPost_ret (res8 _ w.heap.size _ _ _ _ _ _ _ _ _ _ _ rfl rfl (set9_heapT wr w.heap.size (.int .u8 (t : Int)) (.bool sy) (.int .u64 (v1 : Int)) (.int .u64 (v2 : Int)) (.int .u64 (v3 : Int)) (.bool v.isSome) (.int .i64 (st : Int)) (.int .i64 (ln : Int)) (.slice ea en ec) _ _ _ _ _ _ _ _ _ PR.out.res)) rfl ?_
                  refine ⟨fun h => absurd h (by rw [HD.out]; simp), fun m h => ?_⟩
                  rw [HD.out] at h
                  cases h
                  exact ⟨st, ln, ea, en, ec, rfl, HWV.out, hst, hln, ⟨xs, owns_set9 (by rw [hel]; exact OR.out) (by omega), WR.out⟩, set9_below w.heap.size _ _ _ _ _ _ _ _ _ PR.out.below (Nat.le_refl _)⟩
                · have HD : Hid (decodeM L = none) := D2.out fun es' h' => by
                    rw [ER.out] at h'
                    exact hql (Prod.mk.inj (Option.some.inj h')).2
                  have hqlI : ¬ (q : Int) = (L.length : Int) := by omega
                  go_wp2_with fail
                  refine bodyPost_ret (res8 _ w.heap.size _ _ _ _ _ _ _ _ _ _ _ rfl rfl (set9_heapT wr w.heap.size (.int .u8 (t : Int)) (.bool sy) (.int .u64 (v1 : Int)) (.int .u64 (v2 : Int)) (.int .u64 (v3 : Int)) (.bool v.isSome) (.int .i64 (st : Int)) (.int .i64 (ln : Int)) (.slice ea en ec) _ _ _ _ _ _ _ _ _ PR.out.res)) rfl ?_
                  exact ⟨fun _ => ⟨⟨_, _, _, _, _, _, _, _, _, _, _, rfl⟩, set9_below w.heap.size _ _ _ _ _ _ _ _ _ PR.out.below (Nat.le_refl _)⟩, fun m h => absurd h (by rw [HD.out]; simp)⟩

set_option maxRecDepth 100000 in
set_option maxHeartbeats 4000000 in
theorem parse_any (g cap : Nat) (L : List UInt8) (w : World) (hn : 0 < L.length) (hL : L.length ≤ 1048576) (hbuf : BufAt w g 0 L) (hgw : g < w.heap.size) :
    Calls Tryf.prog 8 #[.slice (some ⟨g, 0, none⟩) L.length cap] w (ParsePost L w) := by
  have hbit := bit127 ⟨(L[0]).toNat, (L[0]).toNat_lt⟩
  simp only at hbit
  have hby : w.cell? ⟨g, 0, none⟩ = some (.int .u8 ((L[0]).toNat : Int)) := by
    have := hbuf 0 hn
    rw [Nat.add_zero] at this
    exact this
  cases ht : typOk ((L[0]).toNat % 128) with
  | false =>
    have hd := decodeM_type hn ht
    refine (parse_type g cap L.length _ _ w hn hL hgw hby hbit ht).mono ?_
    intro e w' h
    exact ⟨fun _ => h, fun m hm => by rw [hd] at hm; cases hm⟩
  | true =>
    have hsy : decide ((128 : Int) ≤ ((L[0]).toNat : Int)) = decide (128 ≤ (L[0]).toNat) := decide_eq_decide.2 (by omega)
    have hdh := fun h => decodeM_head hn ht h
    have hde := fun {v1 v2 v3 v5 p : Nat} {x4 : Option (Nat × Nat)} (h : rHead L = some ((v1, v2, v3, x4, v5), p)) => decodeM_ents hn ht h
    have ht12 : 1 ≤ (L[0]).toNat % 128 ∧ (L[0]).toNat % 128 ≤ 21 := by
      unfold typOk at ht
      simp at ht
      omega
    clear ht
    generalize (L[0]).toNat % 128 = t at hbit hde ht12
    generalize decide (128 ≤ (L[0]).toNat) = sy at hsy hde
    generalize (L[0]).toNat = b at hbit hby hsy
    exact parse_main g cap L w hn hL hbuf hgw b t sy hby hbit hsy ht12.1 ht12.2 hdh hde
end Go.Proofs.Qxb6616623aFmt
