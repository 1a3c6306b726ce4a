/-
  The walk of zzB1SameAsWire.
-/
import Derived.Test.Qxb6616623aFmtWire
namespace Go.Proofs.Qxb6616623aFmt
open Go.RowKit Go.Lib Go.Shelf
set_option linter.unusedVariables false

set_option maxRecDepth 100000 in
set_option maxHeartbeats 4000000 in
theorem wire_ents (g cap : Nat) (L : List UInt8) (t v1 v2 v3 st ln : Nat) (sy : Bool) (v : Option (Nat × Nat)) (a : Option Addr) (n c : Nat) (es : List Ent) (E G ec : Nat) (xs : List Value) (w : World) (hne : 0 < es.length) (hes : es.length ≤ 1048576) (hEl : E < w.heap.size) (hGl : G < w.heap.size) (hE : ∀ i (h : i < es.length), EntAt w g 0 E i es[i]) (hG : ∀ i (h : i < es.length), WEnt L.length es[i] xs i) (hGx : ∀ i, i < es.length * 7 → w.cell? ⟨G, i, none⟩ = xs[i]?) (hall : ∀ e ∈ es, e.space ≤ 7 ∧ InL L e.val) (hec : es.length ≤ ec) (hL : L.length ≤ 1048576) (hgw : g < w.heap.size) (hbuf : BufAt w g 0 L) (hv : ValIs g 0 v (.slice a n c)) (hwv : WV v st ln) (hin : InL L v) :
    Calls Tryf.prog 11 #[.slice (some ⟨g, 0, none⟩) L.length cap, .agg #[.int .u8 (t : Int), .int .i64 0, .int .i64 0, .int .u64 (v1 : Int), .int .u64 (v2 : Int), .int .u64 (v3 : Int), .slice a n c, .slice (some ⟨E, 0, none⟩) es.length es.length, .bool sy], .agg #[.int .u8 (t : Int), .bool sy, .int .u64 (v1 : Int), .int .u64 (v2 : Int), .int .u64 (v3 : Int), .bool v.isSome, .int .i64 (st : Int), .int .i64 (ln : Int), .slice (some ⟨G, 0, none⟩) es.length ec]] w (Yes w) := by
  obtain ⟨W2, hW2⟩ : ∃ W2, W2 = (w.alloc (.cells #[.int .u8 (t : Int), .int .i64 0, .int .i64 0, .int .u64 (v1 : Int), .int .u64 (v2 : Int), .int .u64 (v3 : Int), .slice a n c, .slice (some ⟨E, 0, none⟩) es.length es.length, .bool sy] 35)).alloc (.cells #[.int .u8 (t : Int), .bool sy, .int .u64 (v1 : Int), .int .u64 (v2 : Int), .int .u64 (v3 : Int), .bool v.isSome, .int .i64 (st : Int), .int .i64 (ln : Int), .slice (some ⟨G, 0, none⟩) es.length ec] 28) := ⟨_, rfl⟩
  have hbel : Below w.heap.size w W2 := by rw [hW2]; exact ((Below.refl _ w).alloc (Nat.le_refl _) _).alloc (by simp) _
  have hM : W2.heap[w.heap.size]? = some (.cells #[.int .u8 (t : Int), .int .i64 0, .int .i64 0, .int .u64 (v1 : Int), .int .u64 (v2 : Int), .int .u64 (v3 : Int), .slice a n c, .slice (some ⟨E, 0, none⟩) es.length es.length, .bool sy] 35 (0, 0)) := by
    rw [hW2, Below.heap_alloc _ _ _ (by simp)]
    exact heap_alloc_new _ _
  have hX : W2.heap[w.heap.size + 1]? = some (.cells #[.int .u8 (t : Int), .bool sy, .int .u64 (v1 : Int), .int .u64 (v2 : Int), .int .u64 (v3 : Int), .bool v.isSome, .int .i64 (st : Int), .int .i64 (ln : Int), .slice (some ⟨G, 0, none⟩) es.length ec] 28 (0, 0)) := by
    rw [hW2]
    have := heap_alloc_new (w.alloc (.cells #[.int .u8 (t : Int), .int .i64 0, .int .i64 0, .int .u64 (v1 : Int), .int .u64 (v2 : Int), .int .u64 (v3 : Int), .slice a n c, .slice (some ⟨E, 0, none⟩) es.length es.length, .bool sy] 35)) (.cells #[.int .u8 (t : Int), .bool sy, .int .u64 (v1 : Int), .int .u64 (v2 : Int), .int .u64 (v3 : Int), .bool v.isSome, .int .i64 (st : Int), .int .i64 (ln : Int), .slice (some ⟨G, 0, none⟩) es.length ec] 28)
    rw [World.size_alloc] at this
    exact this
  have HM : Hid (W2.heap[w.heap.size]? = some (.cells #[.int .u8 (t : Int), .int .i64 0, .int .i64 0, .int .u64 (v1 : Int), .int .u64 (v2 : Int), .int .u64 (v3 : Int), .slice a n c, .slice (some ⟨E, 0, none⟩) es.length es.length, .bool sy] 35 (0, 0))) := hM
  have HX : Hid (W2.heap[w.heap.size + 1]? = some (.cells #[.int .u8 (t : Int), .bool sy, .int .u64 (v1 : Int), .int .u64 (v2 : Int), .int .u64 (v3 : Int), .bool v.isSome, .int .i64 (st : Int), .int .i64 (ln : Int), .slice (some ⟨G, 0, none⟩) es.length ec] 28 (0, 0))) := hX
  have HBEL : Hid (Below w.heap.size w W2) := hbel
  have hs := same_any g cap L v a n c st ln W2 hL (by have := hbel.size; omega) (buf_below hbuf hbel hgw) hv hwv hin
  have HS : Hid (Calls Tryf.prog 24 #[.slice a n c, .bool v.isSome, .slice (some ⟨g, 0, none⟩) L.length cap, .int .i64 (st : Int), .int .i64 (ln : Int)] W2 (Yes W2)) := hs
  have HBUF : Hid (BufAt w g 0 L) := hbuf
  have HE : Hid (∀ i (h : i < es.length), EntAt w g 0 E i es[i]) := hE
  have HG : Hid (∀ i (h : i < es.length), WEnt L.length es[i] xs i) := hG
  have HGX : Hid (∀ i, i < es.length * 7 → w.cell? ⟨G, i, none⟩ = xs[i]?) := hGx
  have HALL : Hid (∀ e ∈ es, e.space ≤ 7 ∧ InL L e.val) := hall
  clear hs hv hwv hin hbuf hM hX hbel hE hG hGx hall
  go_enter Tryf.func11, Tryf.ntmps11
  go_wp2_with fail
  rw [← hW2]
  clear hW2
  refine HS.out.mono ?_
  rintro e w3 ⟨rfl, hb3⟩
  obtain ⟨r0, r1, r2, r3, r4, r5, r6, r7, r8, rf⟩ := nine_of ((hb3.block _ (block_lt HM.out)).trans HM.out)
  obtain ⟨x0, x1, x2, x3, x4, x5, x6, x7, x8, xf⟩ := nine_of ((hb3.block _ (block_lt HX.out)).trans HX.out)
  have HB3 : Hid (Below w.heap.size w w3) := HBEL.out.trans (hb3.mono HBEL.out.size)
  have HB23 : Hid (Below W2.heap.size W2 w3) := hb3
  have hlenI : ((es.length : Int) == 0) = false := by rw [beq_eq_false_iff_ne]; omega
  clear hb3
  go_wp2_with fail
  clear r0 r1 r2 r3 r4 r5 r6 r7 r8 rf x0 x1 x2 x3 x4 x5 x6 x7 x8 xf
  go_loopw [7] (fun cc wr => ∃ j : Nat, j ≤ es.length ∧ cc = .int .i64 (j : Int) ∧ Below W2.heap.size W2 wr) (fun cc _ => es.length - (RowKit.intOf cc).toNat)
  case atStart => exact ⟨0, Nat.zero_le _, rfl, HB23.out⟩
  case round =>
    obtain ⟨j, hj, rfl, hbel⟩ := hrel
    obtain ⟨r0, r1, r2, r3, r4, r5, r6, r7, r8, rf⟩ := nine_of ((hbel.block _ (block_lt HM.out)).trans HM.out)
    obtain ⟨x0, x1, x2, x3, x4, x5, x6, x7, x8, xf⟩ := nine_of ((hbel.block _ (block_lt HX.out)).trans HX.out)
    have hW2s : w.heap.size ≤ W2.heap.size := HBEL.out.size
    have hwrs := hbel.size
    have hbw : Below w.heap.size w wr := HBEL.out.trans (hbel.mono hW2s)
    have HBW : Hid (Below w.heap.size w wr) := hbw
    have HB : Hid (Below W2.heap.size W2 wr) := hbel
    clear hbel
    by_cases hjn : j < es.length
    · obtain ⟨e0, e1, e2, e3, pa, pm, pc, e4, hval⟩ := entAt_of (fun k => hbw.cell (p := ⟨E, k, none⟩) hEl) (HE.out j hjn)
      obtain ⟨st', ln', f0, f1, f2, f3, f4, f5, f6, hwv', hst', hln'⟩ := HG.out j hjn
      have hc : ∀ i, i < es.length * 7 → wr.cell? ⟨G, i, none⟩ = xs[i]? := fun i hi => (hbw.cell (p := ⟨G, i, none⟩) hGl).trans (HGX.out i hi)
      have g0 := (hc (j * 7) (by omega)).trans f0
      have g1 := (hc (j * 7 + 1) (by omega)).trans f1
      have g2 := (hc (j * 7 + 2) (by omega)).trans f2
      have g3 := (hc (j * 7 + 3) (by omega)).trans f3
      have g4 := (hc (j * 7 + 4) (by omega)).trans f4
      have g5 := (hc (j * 7 + 5) (by omega)).trans f5
      have g6 := (hc (j * 7 + 6) (by omega)).trans f6
      obtain ⟨hsp, hin⟩ := HALL.out es[j] (List.getElem_mem hjn)
      have HV : Hid (ValIs g 0 es[j].val (.slice pa pm pc)) := hval
      have HWV : Hid (WV es[j].val st' ln') := hwv'
      have HIN : Hid (InL L es[j].val) := hin
      clear f0 f1 f2 f3 f4 f5 f6 hc hbw hval hwv' hin
      generalize es[j] = en at *
      have hX2 := block_lt HX.out
      have hMl : w.heap.size < wr.heap.size := by omega
      have hXl : w.heap.size + 1 < wr.heap.size := by omega
      have hEr : E < wr.heap.size := by omega
      have hGr : G < wr.heap.size := by omega
      have hEr1 : E < wr.heap.size + 1 := by omega
      go_wp2_with fail
      have hba : ∀ o1 o2 : Obj, Below w.heap.size w ((wr.alloc o1).alloc o2) := fun o1 o2 => (HBW.out.alloc (by omega) _).alloc (by simp; omega) _
      refine (same_any g cap L en.val pa pm pc st' ln' _ hL (by simp; omega) (buf_below HBUF.out (hba _ _) hgw) HV.out HWV.out HIN.out).mono ?_
      rintro e w5 ⟨rfl, hb5⟩
      have HB5 : Hid (Below W2.heap.size W2 w5) := ((HB.out.alloc (by omega) _).alloc (by simp; omega) _).trans (hb5.mono (by simp; omega))
      clear hb5 hba
      go_wp2_with fail
      go_roundw
      case rel => exact ⟨j + 1, by omega, by simp, HB5.out⟩
      case measure => simp [RowKit.intOf]; omega
    · go_wp2_with fail
      go_ret
      exact ⟨rfl, HBW.out⟩

end Go.Proofs.Qxb6616623aFmt
