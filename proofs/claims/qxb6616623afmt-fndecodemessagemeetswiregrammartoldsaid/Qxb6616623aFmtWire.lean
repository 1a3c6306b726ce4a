/-
  The walk of zzB1SameAsWire.
-/
import Derived.Test.Qxb6616623aFmtSame
import Derived.Test.Qxb6616623aFmtProps
namespace Go.Proofs.Qxb6616623aFmt
open Go.RowKit Go.Lib Go.Shelf
set_option linter.unusedVariables false

set_option maxRecDepth 100000 in
set_option maxHeartbeats 4000000 in
theorem wire_nil (g cap : Nat) (L : List UInt8) (t v1 v2 v3 st ln : Nat) (sy : Bool) (v : Option (Nat × Nat)) (a : Option Addr) (n c : Nat) (ea : Option Addr) (ec : Nat) (w : World) (hL : L.length ≤ 1048576) (hgw : g < w.heap.size) (hbuf : BufAt w g 0 L) (hv : ValIs g 0 v (.slice a n c)) (hwv : WV v st ln) (hin : InL L v) :
    Calls Tryf.prog 11 #[.slice (some ⟨g, 0, none⟩) L.length cap, .agg #[.int .u8 (t : Int), .int .i64 0, .int .i64 0, .int .u64 (v1 : Int), .int .u64 (v2 : Int), .int .u64 (v3 : Int), .slice a n c, .slice none 0 0, .bool sy], .agg #[.int .u8 (t : Int), .bool sy, .int .u64 (v1 : Int), .int .u64 (v2 : Int), .int .u64 (v3 : Int), .bool v.isSome, .int .i64 (st : Int), .int .i64 (ln : Int), .slice ea 0 ec]] w (Yes w) := by
  have hnil2 := fun (W : World) => run_eql_slice_nil (P := Tryf.prog) W 33 47 none 0 0 Tryf.underlying33
  obtain ⟨W2, hW2⟩ : ∃ W2, W2 = (w.alloc (.cells #[.int .u8 (t : Int), .int .i64 0, .int .i64 0, .int .u64 (v1 : Int), .int .u64 (v2 : Int), .int .u64 (v3 : Int), .slice a n c, .slice none 0 0, .bool sy] 35)).alloc (.cells #[.int .u8 (t : Int), .bool sy, .int .u64 (v1 : Int), .int .u64 (v2 : Int), .int .u64 (v3 : Int), .bool v.isSome, .int .i64 (st : Int), .int .i64 (ln : Int), .slice ea 0 ec] 28) := ⟨_, rfl⟩
  have hbel : Below w.heap.size w W2 := by rw [hW2]; exact ((Below.refl _ w).alloc (Nat.le_refl _) _).alloc (by simp) _
  have hM : W2.heap[w.heap.size]? = some (.cells #[.int .u8 (t : Int), .int .i64 0, .int .i64 0, .int .u64 (v1 : Int), .int .u64 (v2 : Int), .int .u64 (v3 : Int), .slice a n c, .slice none 0 0, .bool sy] 35 (0, 0)) := by
    rw [hW2, Below.heap_alloc _ _ _ (by simp)]
    exact heap_alloc_new _ _
  have hX : W2.heap[w.heap.size + 1]? = some (.cells #[.int .u8 (t : Int), .bool sy, .int .u64 (v1 : Int), .int .u64 (v2 : Int), .int .u64 (v3 : Int), .bool v.isSome, .int .i64 (st : Int), .int .i64 (ln : Int), .slice ea 0 ec] 28 (0, 0)) := by
    rw [hW2]
    have := heap_alloc_new (w.alloc (.cells #[.int .u8 (t : Int), .int .i64 0, .int .i64 0, .int .u64 (v1 : Int), .int .u64 (v2 : Int), .int .u64 (v3 : Int), .slice a n c, .slice none 0 0, .bool sy] 35)) (.cells #[.int .u8 (t : Int), .bool sy, .int .u64 (v1 : Int), .int .u64 (v2 : Int), .int .u64 (v3 : Int), .bool v.isSome, .int .i64 (st : Int), .int .i64 (ln : Int), .slice ea 0 ec] 28)
    rw [World.size_alloc] at this
    exact this
  have HM : Hid (W2.heap[w.heap.size]? = some (.cells #[.int .u8 (t : Int), .int .i64 0, .int .i64 0, .int .u64 (v1 : Int), .int .u64 (v2 : Int), .int .u64 (v3 : Int), .slice a n c, .slice none 0 0, .bool sy] 35 (0, 0))) := hM
  have HX : Hid (W2.heap[w.heap.size + 1]? = some (.cells #[.int .u8 (t : Int), .bool sy, .int .u64 (v1 : Int), .int .u64 (v2 : Int), .int .u64 (v3 : Int), .bool v.isSome, .int .i64 (st : Int), .int .i64 (ln : Int), .slice ea 0 ec] 28 (0, 0))) := hX
  have HBEL : Hid (Below w.heap.size w W2) := hbel
  have hs := same_any g cap L v a n c st ln W2 hL (by have := hbel.size; omega) (buf_below hbuf hbel hgw) hv hwv hin
  have HS : Hid (Calls Tryf.prog 24 #[.slice a n c, .bool v.isSome, .slice (some ⟨g, 0, none⟩) L.length cap, .int .i64 (st : Int), .int .i64 (ln : Int)] W2 (Yes W2)) := hs
  clear hs hv hwv hin hbuf hM hX hbel
  go_enter Tryf.func11, Tryf.ntmps11
  go_wp2_with fail
  rw [← hW2]
  clear hW2
  refine HS.out.mono ?_
  rintro e w3 ⟨rfl, hb3⟩
  obtain ⟨r0, r1, r2, r3, r4, r5, r6, r7, r8, rf⟩ := nine_of ((hb3.block _ (block_lt HM.out)).trans HM.out)
  obtain ⟨x0, x1, x2, x3, x4, x5, x6, x7, x8, xf⟩ := nine_of ((hb3.block _ (block_lt HX.out)).trans HX.out)
  have HB3 : Hid (Below w.heap.size w w3) := HBEL.out.trans (hb3.mono HBEL.out.size)
  clear hb3
  go_wp2_with fail
  go_ret
  exact ⟨rfl, HB3.out⟩
end Go.Proofs.Qxb6616623aFmt
