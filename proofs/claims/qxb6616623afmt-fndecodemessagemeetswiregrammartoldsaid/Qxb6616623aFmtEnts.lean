/-
  DecodeMessage behind its first byte.
-/
import Derived.Test.Qxb6616623aFmtMsgB
namespace Go.Proofs.Qxb6616623aFmt
open Go.RowKit Go.Lib Go.Shelf
open Go.Stop (Interp)
set_option linter.unusedVariables false

theorem Tryf.info47 : (Tryf.prog.info? 47).map (fun i => (i.zero, i.size, i.bytes)) = some (some (.agg #[.int .i64 0, .int .u64 0, .int .u64 0, .int .u64 0, .slice none 0 0]), 5, 56) := by kernel_rfl

/-- The entries' block while it is filled. -/
structure EB (w wr : World) (g o c : Nat) (L : List UInt8) (p E n j : Nat) (st : Option Nat) : Prop where
  blk : ∃ cur, wr.heap[E]? = some (.cells cur 47 (0, 0)) ∧ cur.size = n * 5
  ns : ∀ s, wr.cell? ⟨E, 0, none⟩ ≠ some (.string s)
  ents : match st with
    | some q => ∃ es, rEnts L p j = some (es, q) ∧ ∀ i (h : i < es.length), EntAt wr g o E i es[i]
    | none => rEnts L p j = none

theorem made_first (n : Nat) (h : 0 < n) : (madeCells (Value.agg #[.int .i64 0, .int .u64 0, .int .u64 0, .int .u64 0, .slice none 0 0]).cells (n * 5)).toList[0]? = some (.int .i64 0) := by
  obtain ⟨m, hm⟩ : ∃ m, n * 5 = m + 1 := ⟨n * 5 - 1, by omega⟩
  rw [hm]
  simp [madeCells, Value.cells]

theorem eb_start {w w5 w6 : World} {g o c : Nat} {L : List UInt8} {p n : Nat} {M j : Nat} {v : Value} (hown : w6.ownsRow w5.heap.size 47 5 (.slice (some ⟨w5.heap.size, 0, none⟩) n n) n (madeCells (Value.agg #[.int .i64 0, .int .u64 0, .int .u64 0, .int .u64 0, .slice none 0 0]).cells (n * 5)).toList) (hn : 0 < n) (hM : M ≠ w5.heap.size) :
    EB w (w6.setCell ⟨M, j, none⟩ v) g o c L p w5.heap.size n 0 (some p) := by
  have h0 : w6.cell? ⟨w5.heap.size, 0, none⟩ = some (.int .i64 0) := by rw [hown.cellAt 0 (by omega)]; exact made_first n hn
  rcases hown.2 with ⟨h', _⟩ | ⟨g', cap', cur, h', _, hg, _, _, hs, _⟩
  · simp at h'
  · simp only [Value.slice.injEq, Option.some.injEq, Addr.mk.injEq, and_true, true_and] at h'
    obtain ⟨rfl, rfl⟩ := h'
    refine ⟨⟨cur, (Below.heap_setCell w6 ⟨M, j, none⟩ v _ (by show _ ≠ M; omega)).trans hg, hs⟩, fun s => ?_, [], rfl, fun i h => by simp at h⟩
    rw [World.cell?_setCell_other _ _ _ _ (by simp), h0]
    simp

theorem eb_cell {w wr : World} {g o c : Nat} {L : List UInt8} {p E n j : Nat} {st : Option Nat} (h : EB w wr g o c L p E n j st) (k : Nat) (hk : k < n * 5) : (∃ v, wr.cell? ⟨E, k, none⟩ = some v) ∧ wr.frozen? ⟨E, k, none⟩ = false := by
  obtain ⟨cur, hc, hs⟩ := h.blk
  refine ⟨⟨cur[k], ?_⟩, frozen_of_row wr E k _ _ hc⟩
  rw [cell_of_row wr E k _ _ _ hc]
  exact Array.getElem?_eq_getElem (by omega)

theorem eb_next {w wr wj : World} {g o c : Nat} {L : List UInt8} {p E n j D : Nat} {st : Option Nat} (h : EB w wr g o c L p E n j st) (hg : wr.grownBy wj (some D)) (hED : E ≠ D) : EB w wj g o c L p E n j st := by
  obtain ⟨cur, hc, hs⟩ := h.blk
  have hlt : E < wr.heap.size := block_lt hc
  have hcell : ∀ k, wj.cell? ⟨E, k, none⟩ = wr.cell? ⟨E, k, none⟩ := fun k => gb_cell hg hlt hED
  refine ⟨⟨cur, (hg.block E hlt (by simp; omega)).trans hc, hs⟩, fun s => by rw [hcell]; exact h.ns s, ?_⟩
  have he := h.ents
  cases st with
  | none => exact he
  | some q =>
    obtain ⟨es, h1, h2⟩ := he
    refine ⟨es, h1, fun i hi => ?_⟩
    obtain ⟨e0, e1, e2, e3, a, m, c', e4, hv⟩ := h2 i hi
    exact ⟨by rw [hcell, e0], by rw [hcell, e1], by rw [hcell, e2], by rw [hcell, e3], a, m, c', by rw [hcell, e4], hv⟩

theorem eb_store {w wr : World} {g o c : Nat} {L : List UInt8} {p E n j k : Nat} {st : Option Nat} {v : Value} (h : EB w wr g o c L p E n j st) (hp : p ≤ L.length) (hk : j * 5 ≤ k) (hkn : k < n * 5) (hv : ∀ s, v ≠ .string s) : EB w (wr.setCell ⟨E, k, none⟩ v) g o c L p E n j st := by
  obtain ⟨cur, hc, hs⟩ := h.blk
  have hcell : ∀ i, i < k → (wr.setCell ⟨E, k, none⟩ v).cell? ⟨E, i, none⟩ = wr.cell? ⟨E, i, none⟩ := fun i hi => World.cell?_setCell_other _ _ _ _ (by simp)
  refine ⟨⟨cur.setIfInBounds k v, heap_setCell_same wr E k _ _ v hc, by simpa using hs⟩, fun s => ?_, ?_⟩
  · by_cases h0 : k = 0
    · subst h0
      obtain ⟨⟨u, hu⟩, _⟩ := eb_cell h 0 hkn
      rw [World.cell?_setCell_same _ _ _ hu]
      intro hh
      exact hv s (Option.some.inj hh)
    · rw [hcell 0 (by omega)]; exact h.ns s
  · have he := h.ents
    cases st with
    | none => exact he
    | some q =>
      obtain ⟨es, h1, h2⟩ := he
      have hl := (rEnts_some hp h1).2.2
      refine ⟨es, h1, fun i hi => ?_⟩
      obtain ⟨e0, e1, e2, e3, a, m, c', e4, hv'⟩ := h2 i hi
      exact ⟨by rw [hcell _ (by omega), e0], by rw [hcell _ (by omega), e1], by rw [hcell _ (by omega), e2], by rw [hcell _ (by omega), e3], a, m, c', by rw [hcell _ (by omega), e4], hv'⟩

theorem stVar_nil (L : List UInt8) : stVar L none = (0, none) := rfl
theorem stVal_nil (L : List UInt8) : stVal L none = (none, none) := rfl
theorem stVar_no {L : List UInt8} {p : Nat} (h : rVar L p = none) : stVar L (some p) = (0, none) := by simp [stVar, h]
theorem stVar_yes {L : List UInt8} {p v q : Nat} (h : rVar L p = some (v, q)) : stVar L (some p) = (v, some q) := by simp [stVar, h]
theorem stVal_no {L : List UInt8} {p : Nat} (h : rVal L p = none) : stVal L (some p) = (none, none) := by simp [stVal, h]
theorem stVal_yes {L : List UInt8} {p q : Nat} {v : Option (Nat × Nat)} (h : rVal L p = some (v, q)) : stVal L (some p) = (v, some q) := by simp [stVal, h]
theorem stInst_eq {L : List UInt8} {st : Option Nat} {s x : Nat} {s1 s2 : Option Nat} (h1 : stVar L st = (s, s1)) (h2 : stVar L s1 = (x, s2)) : stInst L st = if 7 < s then ((0, 0), none) else ((s, x), s2) := by
  unfold stInst
  rw [h1]
  simp only
  rw [h2]

/-- What one round reads. -/
theorem ent_step {L : List UInt8} {q vb va : Nat} {ab : Nat × Nat} {sA sB sC sD : Option Nat} {xv : Option (Nat × Nat)} (h1 : stInst L (some q) = (ab, sA)) (h2 : stVar L sA = (vb, sB)) (h3 : stVar L sB = (va, sC)) (h4 : stVal L sC = (xv, sD)) :
    (∀ e r, rEnt L q = some (e, r) → sD = some r ∧ e = ⟨ab.1, ab.2, vb, va, xv⟩) ∧ (rEnt L q = none → sD = none) := by
  have chainC : sC = none → sD = none := fun h => by
    rw [h, stVal_nil] at h4
    exact (Prod.mk.inj h4).2.symm
  have chainB : sB = none → sD = none := fun h => by
    rw [h, stVar_nil] at h3
    exact chainC (Prod.mk.inj h3).2.symm
  have chain : sA = none → sD = none := fun h => by
    rw [h, stVar_nil] at h2
    exact chainB (Prod.mk.inj h2).2.symm
  unfold rEnt
  cases r1 : rVar L q with
  | none =>
    refine ⟨fun e r h => (by cases h), fun _ => chain ?_⟩
    rw [stInst_eq (stVar_no r1) (stVar_nil L), if_neg (by omega)] at h1
    exact (Prod.mk.inj h1).2.symm
  | some y1 =>
    obtain ⟨s, p1⟩ := y1
    cases r2 : rVar L p1 with
    | none =>
      refine ⟨fun e r h => ?_, fun _ => chain ?_⟩
      · simp only [r2] at h <;> cases h
      · rw [stInst_eq (stVar_yes r1) (stVar_no r2)] at h1
        by_cases h7 : 7 < s
        · rw [if_pos h7] at h1; exact (Prod.mk.inj h1).2.symm
        · rw [if_neg h7] at h1; exact (Prod.mk.inj h1).2.symm
    | some y2 =>
      obtain ⟨ix, p2⟩ := y2
      rw [stInst_eq (stVar_yes r1) (stVar_yes r2)] at h1
      by_cases h7 : 7 < s
      · rw [if_pos h7] at h1
        refine ⟨fun e r h => ?_, fun _ => chain (Prod.mk.inj h1).2.symm⟩
        simp only [r2, h7, if_true] at h <;> cases h
      · rw [if_neg h7] at h1
        obtain ⟨e1, e2⟩ := Prod.mk.inj h1
        subst e1; subst e2
        simp only [r2, h7, if_false]
        cases r3 : rVar L p2 with
        | none =>
          refine ⟨fun e r h => (by cases h), fun _ => chainB ?_⟩
          rw [stVar_no r3] at h2
          exact (Prod.mk.inj h2).2.symm
        | some y3 =>
          obtain ⟨b, p3⟩ := y3
          rw [stVar_yes r3] at h2
          obtain ⟨e1, e2⟩ := Prod.mk.inj h2
          subst e1; subst e2
          cases r4 : rVar L p3 with
          | none =>
            refine ⟨fun e r h => ?_, fun _ => chainC ?_⟩
            · simp only [r4] at h <;> cases h
            · rw [stVar_no r4] at h3
              exact (Prod.mk.inj h3).2.symm
          | some y4 =>
            obtain ⟨a, p4⟩ := y4
            rw [stVar_yes r4] at h3
            obtain ⟨e1, e2⟩ := Prod.mk.inj h3
            subst e1; subst e2
            cases r5 : rVal L p4 with
            | none =>
              refine ⟨fun e r h => ?_, fun _ => ?_⟩
              · simp only [r4, r5] at h <;> cases h
              · rw [stVal_no r5] at h4
                exact (Prod.mk.inj h4).2.symm
            | some y5 =>
              obtain ⟨v, p5⟩ := y5
              rw [stVal_yes r5] at h4
              obtain ⟨e1, e2⟩ := Prod.mk.inj h4
              subst e1; subst e2
              refine ⟨fun e r h => ?_, fun h => ?_⟩
              · simp only [r4, r5, Option.some.injEq, Prod.mk.injEq] at h
                obtain ⟨rfl, rfl⟩ := h
                exact ⟨rfl, rfl⟩
              · simp only [r4, r5] at h <;> cases h

theorem none_step {L : List UInt8} {vb va : Nat} {ab : Nat × Nat} {sA sB sC sD : Option Nat} {xv : Option (Nat × Nat)} (h1 : stInst L none = (ab, sA)) (h2 : stVar L sA = (vb, sB)) (h3 : stVar L sB = (va, sC)) (h4 : stVal L sC = (xv, sD)) : sD = none := by
  rw [stInst_eq (stVar_nil L) (stVar_nil L), if_neg (by omega)] at h1
  have a1 := (Prod.mk.inj h1).2
  rw [← a1, stVar_nil] at h2
  have a2 := (Prod.mk.inj h2).2
  rw [← a2, stVar_nil] at h3
  have a3 := (Prod.mk.inj h3).2
  rw [← a3, stVal_nil] at h4
  exact (Prod.mk.inj h4).2.symm

/-- The round's end. -/
theorem eb_round {w wr : World} {g o c : Nat} {L : List UInt8} {p E n j vb va : Nat} {st : Option Nat} {ab : Nat × Nat} {sA sB sC sD : Option Nat} {xv : Option (Nat × Nat)} {xa : Option Addr} {xn xc : Nat} (h : EB w wr g o c L p E n j st) (hp : p ≤ L.length)
    (h1 : stInst L st = (ab, sA)) (h2 : stVar L sA = (vb, sB)) (h3 : stVar L sB = (va, sC)) (h4 : stVal L sC = (xv, sD))
    (f0 : wr.cell? ⟨E, j * 5, none⟩ = some (.int .i64 (ab.1 : Int))) (f1 : wr.cell? ⟨E, j * 5 + 1, none⟩ = some (.int .u64 (ab.2 : Int))) (f2 : wr.cell? ⟨E, j * 5 + 2, none⟩ = some (.int .u64 (vb : Int))) (f3 : wr.cell? ⟨E, j * 5 + 3, none⟩ = some (.int .u64 (va : Int))) (f4 : wr.cell? ⟨E, j * 5 + 4, none⟩ = some (.slice xa xn xc)) (hv : ValIs g o xv (.slice xa xn xc)) :
    EB w wr g o c L p E n (j + 1) sD := by
  refine ⟨h.blk, h.ns, ?_⟩
  have he := h.ents
  cases st with
  | none =>
    have := none_step h1 h2 h3 h4
    subst this
    exact rEnts_none_succ he
  | some q =>
    obtain ⟨es, e1, e2⟩ := he
    have hl := (rEnts_some hp e1).2.2
    obtain ⟨s1, s2⟩ := ent_step h1 h2 h3 h4
    cases hr : rEnt L q with
    | none =>
      have := s2 hr
      subst this
      show rEnts L p (j + 1) = none
      unfold rEnts
      rw [e1]
      simp only [hr]
    | some y =>
      obtain ⟨e, r⟩ := y
      obtain ⟨rfl, rfl⟩ := s1 e r hr
      refine ⟨es ++ [⟨ab.1, ab.2, vb, va, xv⟩], ?_, fun i hi => ?_⟩
      · unfold rEnts
        rw [e1]
        simp only [hr]
      · by_cases hij : i < es.length
        · rw [List.getElem_append_left hij]; exact e2 i hij
        · have : i = j := by rw [List.length_append] at hi; simp at hi; omega
          subst this
          rw [List.getElem_append_right (by omega)]
          simp only [hl, Nat.sub_self, List.getElem_cons_zero]
          exact ⟨f0, f1, f2, f3, xa, xn, xc, f4, hv⟩

/-- The round's cells already stored. -/
structure PB (w wr : World) (g o c : Nat) (L : List UInt8) (p E n j : Nat) (st : Option Nat) (vs : List Value) : Prop where
  eb : EB w wr g o c L p E n j st
  cells : ∀ i (h : i < vs.length), wr.cell? ⟨E, j * 5 + i, none⟩ = some vs[i]

theorem pb_start {w wr : World} {g o c : Nat} {L : List UInt8} {p E n j : Nat} {st : Option Nat} (h : EB w wr g o c L p E n j st) : PB w wr g o c L p E n j st [] := ⟨h, fun i h => by simp at h⟩
theorem pb_next {w wr wj : World} {g o c : Nat} {L : List UInt8} {p E n j D : Nat} {st : Option Nat} {vs : List Value} (h : PB w wr g o c L p E n j st vs) (hg : wr.grownBy wj (some D)) (hED : E ≠ D) : PB w wj g o c L p E n j st vs := by
  refine ⟨eb_next h.eb hg hED, fun i hi => ?_⟩
  obtain ⟨cur, hc, hs⟩ := h.eb.blk
  rw [gb_cell hg (block_lt hc) hED]
  exact h.cells i hi
theorem pb_store {w wr : World} {g o c : Nat} {L : List UInt8} {p E n j k : Nat} {st : Option Nat} {vs : List Value} {v : Value} (h : PB w wr g o c L p E n j st vs) (hp : p ≤ L.length) (hk : k = j * 5 + vs.length) (hkn : k < n * 5) (hv : ∀ s, v ≠ .string s) : PB w (wr.setCell ⟨E, k, none⟩ v) g o c L p E n j st (vs ++ [v]) := by
  refine ⟨eb_store h.eb hp (by omega) hkn hv, fun i hi => ?_⟩
  rw [List.length_append] at hi
  simp at hi
  by_cases hl : i < vs.length
  · rw [List.getElem_append_left hl, World.cell?_setCell_other _ _ _ _ (by simp)]
    exact h.cells i hl
  · have : i = vs.length := by omega
    subst this
    obtain ⟨⟨u, hu⟩, _⟩ := eb_cell h.eb k hkn
    subst hk
    rw [World.cell?_setCell_same _ _ _ hu]
    simp

theorem set9_other (W : World) (R E : Nat) (c0 c1 c2 c3 c4 c5 c6 c7 c8 : Value) (h : E ≠ R) (k : Nat) : (set9 W R c0 c1 c2 c3 c4 c5 c6 c7 c8).cell? ⟨E, k, none⟩ = W.cell? ⟨E, k, none⟩ := by
  apply World.cell?_of_block
  unfold set9
  simp only [Below.heap_setCell _ ⟨R, _, none⟩ _ E h]

theorem entAt_of {w1 w2 : World} {g o E i : Nat} {e : Ent} (h : ∀ k, w2.cell? ⟨E, k, none⟩ = w1.cell? ⟨E, k, none⟩) (he : EntAt w1 g o E i e) : EntAt w2 g o E i e := by
  obtain ⟨e0, e1, e2, e3, a, m, c', e4, hv⟩ := he
  exact ⟨by rw [h, e0], by rw [h, e1], by rw [h, e2], by rw [h, e3], a, m, c', by rw [h, e4], hv⟩

theorem entsIs_mk {w : World} {g o B E n : Nat} {es : List Ent} (hl : es.length = n) (hn : 0 < n) (hB : B ≤ E) (h : ∀ i (h : i < es.length), EntAt w g o E i es[i]) : EntsIs w g o B es (.slice (some ⟨E, 0, none⟩) n n) := by
  cases es with
  | nil => simp at hl; omega
  | cons e r => subst hl; exact ⟨E, rfl, hB, h⟩

/-- The answer behind the entries. -/
def LoopPost (w : World) (g o : Nat) (L : List UInt8) (p n : Nat) (m : List Ent → Msg) (e : Ending) (w' : World) : Prop :=
  (∀ es, rEnts L p n = some (es, L.length) → Accepted w g o (m es) e w') ∧ ((∀ es, rEnts L p n ≠ some (es, L.length)) → Refused w e w')

end Go.Proofs.Qxb6616623aFmt
