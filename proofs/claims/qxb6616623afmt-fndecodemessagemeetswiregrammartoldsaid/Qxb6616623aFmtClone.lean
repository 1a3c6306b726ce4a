/-
  The walk of zzB1Clone.
-/
import Derived.Test.Qxb6616623aFmtAny
import Derived.Lib.LazyBuf
import Derived.Laws.OwnMore
namespace Go.Proofs.Qxb6616623aFmt
open Go.RowKit Go.Lib Go.Shelf

/-- The bytes f of n cells. -/
def Bts (w : World) (b off n : Nat) (f : Nat → Nat) : Prop := ∀ i, i < n → w.cell? ⟨b, off + i, none⟩ = some (.int .u8 ((f i : Nat) : Int))

theorem Tryf.info5 : (Tryf.prog.info? 5).map (fun i => (i.zero, i.size, i.bytes)) = some (some (.int .u8 0), 1, 1) := by kernel_rfl

set_option maxHeartbeats 1000000 in
theorem clone_any (b off n cap : Nat) (f : Nat → Nat) (w : World) (hn : n ≤ 1048576) (hb : b < w.heap.size) (hc : Bts w b off n f) :
    Calls Tryf.prog 7 #[.slice (some ⟨b, off, none⟩) n cap] w fun e w' => ∃ g, e = .returned (.slice (some ⟨g, 0, none⟩) n n) ∧ w.heap.size ≤ g ∧ g < w'.heap.size ∧ Below w.heap.size w w' ∧ Bts w' g 0 n f := by
  have HC : Hid (Bts w b off n f) := hc
  clear hc
  have hnil := fun (W : World) => run_eql_slice_nil (P := Tryf.prog) W 22 5 (some ⟨b, off, none⟩) n cap Tryf.underlying22
  obtain ⟨i0, hi, hz0, hz1, hz2⟩ := info_parts Tryf.info5
  obtain ⟨w1, hmk, hown, hgrow⟩ := run_make_full (P := Tryf.prog) (w := w) w.heap.size 22 5 i0 (.int .u8 0) 1 Tryf.underlying22 hi hz0 hz1 .i64 .i64 n (by rw [hz2]; omega) (by unfold maxLen; omega) (Nat.le_refl _)
  have hbel : Below w.heap.size w w1 := (Below.refl _ w).grown hgrow (Nat.le_refl _) (fun k h => by cases h)
  have hsz : w.heap.size < w1.heap.size := by
    rcases hown.2 with ⟨h', _⟩ | ⟨g', cap', cur, h', _, hg, _⟩
    · simp at h'
    · simp only [Value.slice.injEq, Option.some.injEq, Addr.mk.injEq, and_true, true_and] at h'
      obtain ⟨rfl, rfl⟩ := h'
      exact (Array.getElem?_eq_some_iff.1 hg).1
  have hlen : (madeCells (Value.int .u8 0).cells (n * 1)).toList.length = n := by have := hown.1; omega
  clear hi hz0 hz1 hz2
  generalize (madeCells (Value.int .u8 0).cells (n * 1)).toList = xs0 at hown hlen
  go_enter Tryf.func7, Tryf.ntmps7
  go_wp2
  go_loopw [4] (fun i wr => ∃ k : Nat, k ≤ n ∧ i = .int .i64 k ∧ Below w.heap.size w wr ∧ w.heap.size < wr.heap.size ∧ ∃ xs : List Value, wr.ownsRow w.heap.size 5 1 (.slice (some ⟨w.heap.size, 0, none⟩) n n) n xs ∧ ∀ j, j < k → xs[j]? = some (.int .u8 (f j : Int))) (fun i _ => n - (RowKit.intOf i).toNat)
  case atStart => exact ⟨0, Nat.zero_le _, rfl, hbel, hsz, xs0, hown, fun j h => by omega⟩
  case round =>
    obtain ⟨k, hk, rfl, hbr, hszr, xs, hox, hxs⟩ := hrel
    have HX : Hid (∀ j, j < k → xs[j]? = some (.int .u8 (f j : Int))) := hxs
    have HB : Hid (Below w.heap.size w wr) := hbr
    have HO : Hid (wr.ownsRow w.heap.size 5 1 (.slice (some ⟨w.heap.size, 0, none⟩) n n) n xs) := hox
    have hl : xs.length = n := by have := hox.1; omega
    clear hxs hbr hox hown hmk hbel hgrow hnil
    by_cases hlt : k < n
    · have hck : wr.cell? ⟨b, off + k, none⟩ = some (.int .u8 (f k : Int)) := (HB.out.cell (p := ⟨b, off + k, none⟩) hb).trans (HC.out k hlt)
      have hkl : k < xs.length := by omega
      have hdst : wr.cell? ⟨w.heap.size, k, none⟩ = some xs[k] := by rw [HO.out.cellAt k (by omega), List.getElem?_eq_getElem hkl]
      generalize xs[k] = u at hdst
      have hfz : wr.frozen? ⟨w.heap.size, k, none⟩ = false := HO.out.frozenAt k
      have HL : Hid (xs.length = n) := hl
      clear hl
      go_wp2
      go_roundw
      case rel =>
        refine ⟨k + 1, by omega, by go_num, HB.out.setCell (p := ⟨w.heap.size, k, none⟩) (Nat.le_refl _) _, by simpa using hszr, xs.set k (.int .u8 (f k : Int)), (HO.out.stored k _).1, fun j hj => ?_⟩
        by_cases h : j = k
        · subst h; simp [hkl]
        · rw [List.getElem?_set_ne (by omega)]; exact HX.out j (by omega)
      case measure => simp [RowKit.intOf]; omega
    · clear hl
      go_wp2
      go_ret
      refine ⟨w.heap.size, rfl, Nat.le_refl _, hszr, HB.out, fun i hi => ?_⟩
      rw [Nat.zero_add, HO.out.cellAt i (by omega)]
      exact HX.out i (by omega)

set_option maxHeartbeats 1000000 in
theorem clone_nil (w : World) : Calls Tryf.prog 7 #[.slice none 0 0] w fun e w' => e = .returned (.slice none 0 0) ∧ w = w' := by
  have hnil := fun (W : World) => run_eql_slice_nil (P := Tryf.prog) W 22 5 none 0 0 Tryf.underlying22
  go_enter Tryf.func7, Tryf.ntmps7
  go_wp2
  go_ret
  exact ⟨rfl, rfl⟩

set_option maxHeartbeats 1000000 in
theorem clone_empty (x : Addr) (cap : Nat) (w : World) : Calls Tryf.prog 7 #[.slice (some x) 0 cap] w fun e w' => ∃ g, e = .returned (.slice (some ⟨g, 0, none⟩) 0 0) ∧ Below w.heap.size w w' := by
  have hnil := fun (W : World) => run_eql_slice_nil (P := Tryf.prog) W 22 5 (some x) 0 cap Tryf.underlying22
  obtain ⟨i0, hi, hz0, hz1, hz2⟩ := info_parts Tryf.info5
  obtain ⟨w1, hmk, hown, hgrow⟩ := run_make_full (P := Tryf.prog) (w := w) w.heap.size 22 5 i0 (.int .u8 0) 1 Tryf.underlying22 hi hz0 hz1 .i64 .i64 0 (by omega) (by unfold maxLen; omega) (Nat.le_refl _)
  have hbel : Below w.heap.size w w1 := (Below.refl _ w).grown hgrow (Nat.le_refl _) (fun k h => by cases h)
  clear hi hz0 hz1 hz2 hown hgrow
  simp only [Int.cast_ofNat_Int] at hmk
  go_enter Tryf.func7, Tryf.ntmps7
  go_wp2
  refine wp_loop_rounds 1 ?_
  rw [rounds_succ]
  go_wp2
  go_ret
  exact ⟨w.heap.size, rfl, hbel⟩
end Go.Proofs.Qxb6616623aFmt
