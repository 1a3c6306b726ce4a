/-
  The walk of EncodeRef.
-/
import Derived.Test.Qxb6616623aFmtClone
import Derived.Test.Qxb6616623aFmtPlain
import Derived.Deep.RegionWith
namespace Go.Proofs.Qxb6616623aFmt
open Go.RowKit Go.Lib Go.Shelf

/-- A row of bytes that is owned and not empty: its address, its cells. -/
theorem owns_view {w : World} {B n : Nat} {v : Value} {l : List UInt8} (h : w.ownsRow B 5 1 v n (byteCells l)) (hn : 0 < n) :
    ∃ g cap, v = .slice (some ⟨g, 0, none⟩) n cap ∧ B ≤ g ∧ n ≤ cap ∧ l.length = n ∧ g < w.heap.size ∧ (∀ j (hj : j < l.length), w.cell? ⟨g, 0 + j, none⟩ = some (.int .u8 (l[j]).toNat)) := by
  have hl : l.length = n := by have := h.1; rw [byteCells_length] at this; omega
  have h' := h
  rcases h.2 with ⟨_, h2⟩ | ⟨g, cap, cur, rfl, hB, hg, hc, _⟩
  · omega
  · refine ⟨g, cap, rfl, hB, hc, hl, (Array.getElem?_eq_some_iff.1 hg).1, fun j hj => ?_⟩
    rw [Nat.zero_add, h'.cellAt j (by omega)]
    simp [byteCells, hj]

theorem make20 (W : World) : (Instr.makeSlice 22 (.int .i64 0) (.int .i64 20)).run Tryf.prog W = .ok (.slice (some ⟨W.heap.size, 0, none⟩) 0 20) (W.alloc (.cells (Array.replicate 20 (.int .u8 0)) 5)) := by kernel_rfl

theorem owns20 (W : World) (B : Nat) (h : B ≤ W.heap.size) : (W.alloc (.cells (Array.replicate 20 (.int .u8 0)) 5)).ownsRow B 5 1 (.slice (some ⟨W.heap.size, 0, none⟩) 0 20) 0 [] := by
  refine ⟨rfl, .inr ⟨W.heap.size, 20, Array.replicate 20 (.int .u8 0), rfl, h, ?_, by omega, by unfold maxLen; omega, by simp, by simp⟩⟩
  exact heap_alloc_new _ _

set_option maxHeartbeats 1000000 in
theorem enc_any (s : Int) (S i : Nat) (w : World) (hS : IntKind.u64.wrap s = (S : Int)) (hS64 : S < 18446744073709551616) (hi : i < 18446744073709551616) :
    Calls Tryf.prog 13 #[.agg #[.int .i64 s, .int .u64 (i : Int)]] w fun e w' => ∃ g cap, e = .returned (.slice (some ⟨g, 0, none⟩) ((uvarint S).length + (uvarint i).length) cap) ∧ w.heap.size ≤ g ∧ g < w'.heap.size ∧ (uvarint S).length + (uvarint i).length ≤ cap ∧ (∀ j (hj : j < (uvarint S ++ uvarint i).length), w'.cell? ⟨g, 0 + j, none⟩ = some (.int .u8 ((uvarint S ++ uvarint i)[j]).toNat)) ∧ Below w.heap.size w w' := by
  have hmk := make20
  have hl := uvarint_length64 hS64
  have ho := owns20 (w.alloc (.cells #[.int .i64 s, .int .u64 (i : Int)] 44)) (w.heap.size + 1) (by simp)
  have hc1 := Tryf.binary_AppendUvarint (w.heap.size + 1) 0 S hS64 (.slice (some ⟨w.heap.size + 1, 0, none⟩) 0 20) [] (((w.alloc (.cells #[.int .i64 s, .int .u64 (i : Int)] 44)).alloc (.cells (Array.replicate 20 (.int .u8 0)) 5)).drew) (by simpa using ho.drew) (by simp) (by omega)
  clear ho
  go_enter Tryf.func13, Tryf.ntmps13
  go_wp2
  go_region_with (go_at_call 25; refine hc1.mono ?_; rintro e w1 ⟨v1, rfl, hown, hb⟩)
  all_goals
    clear hc1 hmk
    have hcell : w1.cell? ⟨w.heap.size, 1, none⟩ = some (.int .u64 (i : Int)) := (hb.cell (p := ⟨w.heap.size, 1, none⟩) (by simp)).trans (by simp)
    have hsz := hb.size
    simp only [Nat.zero_add, List.nil_append] at hown
    have HO : Hid (w1.ownsRow (w.heap.size + 1) 5 1 v1 (uvarint S).length (byteCells (uvarint S))) := hown
    have HB : Hid (Below w.heap.size w w1) := ((((Below.refl _ w).alloc (Nat.le_refl _) _).alloc (by simp) _).drew).trans (hb.mono (by omega))
    clear hown hb
    go_wp2_with fail
    refine (Tryf.binary_AppendUvarint (w.heap.size + 1) _ i hi _ _ _ HO.out (by simp at hsz; omega) (by omega)).mono ?_
    rintro e w2 ⟨v2, rfl, hown2, hb2⟩
    rw [← byteCells_append] at hown2
    obtain ⟨g, cap, hv, hg, hc, hll, hgs, hcells⟩ := owns_view hown2 (by have := uvarint_pos S; omega)
    rw [hv]
    have HCC : Hid (∀ j (hj : j < (uvarint S ++ uvarint i).length), w2.cell? ⟨g, 0 + j, none⟩ = some (.int .u8 ((uvarint S ++ uvarint i)[j]).toNat)) := hcells
    have HB2 : Hid (Below w.heap.size w w2) := HB.out.trans (hb2.mono (by omega))
    clear hown2 hb2 hv hll hcells
    go_wp2_with fail
    go_ret
    exact ⟨g, cap, rfl, by omega, hgs, hc, HCC.out, HB2.out⟩
end Go.Proofs.Qxb6616623aFmt
