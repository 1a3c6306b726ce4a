/-
  The walk of FnDecodeMessageMeetsWireGrammar.
-/
import Derived.Test.Qxb6616623aFmtWire2
import Derived.Test.Qxb6616623aFmtClone
namespace Go.Proofs.Qxb6616623aFmt
open Go.RowKit Go.Lib Go.Shelf
open Go.Stop (Interp)
set_option linter.unusedVariables false

theorem zz6_any (a : Option Addr) (n cap : Nat) (w : World) (hn : n ≤ maxLen) :
    Calls Tryf.prog 6 #[.slice a n cap] w fun e w' => e = .returned (.bool (decide (n ≤ 1048576))) ∧ w = w' := by
  unfold maxLen at hn
  by_cases h : n ≤ 1048576
  · have hd : decide (n ≤ 1048576) = true := by simpa using h
    rw [hd]
    go_enter Tryf.func6, Tryf.ntmps6
    go_wp2
    go_ret
    exact ⟨rfl, rfl⟩
  · have hd : decide (n ≤ 1048576) = false := by simpa using h
    rw [hd]
    go_enter Tryf.func6, Tryf.ntmps6
    go_wp2
    go_ret
    exact ⟨rfl, rfl⟩

set_option maxHeartbeats 1000000 in
theorem law3_big (a : Option Addr) (n cap : Nat) (w : World) (hn : n ≤ maxLen) (hB : ¬ n ≤ 1048576) :
    Calls Tryf.prog 3 #[.slice a n cap] w (Yes w) := by
  have hz := fun (W : World) => zz6_any a n cap W hn
  have hd : decide (n ≤ 1048576) = false := by simpa using hB
  simp only [hd] at hz
  go_enter Tryf.func3, Tryf.ntmps3
  go_wp2_with fail
  refine (hz _).mono ?_
  rintro e w' ⟨rfl, rfl⟩
  go_wp2_with fail
  go_ret
  exact ⟨rfl, Below.refl _ _⟩

/-- zzB1SameAsWire on an accepted message and the law's own reading of it. -/
theorem wire_any (g cap : Nat) (L : List UInt8) (m : Msg) (st ln : Nat) (a : Option Addr) (n c : Nat) (ma : Option Addr) (mn mc : Nat) (ea : Option Addr) (en ec B B' : Nat) (w : World) (hL : L.length ≤ 1048576) (hgw : g < w.heap.size) (hbuf : BufAt w g 0 L) (hm : decodeM L = some m)
    (hv : ValIs g 0 m.val (.slice a n c)) (hwv : WV m.val st ln) (hes : EntsIs w g 0 B m.ents (.slice ma mn mc)) (hws : WEnts L.length w B' m.ents (.slice ea en ec)) (hlen : m.ents.length ≤ 1048576) :
    Calls Tryf.prog 11 #[.slice (some ⟨g, 0, none⟩) L.length cap, .agg #[.int .u8 (m.typ : Int), .int .i64 0, .int .i64 0, .int .u64 (m.tag : Int), .int .u64 (m.place : Int), .int .u64 (m.ballot : Int), .slice a n c, .slice ma mn mc, .bool m.synced], .agg #[.int .u8 (m.typ : Int), .bool m.synced, .int .u64 (m.tag : Int), .int .u64 (m.place : Int), .int .u64 (m.ballot : Int), .bool m.val.isSome, .int .i64 (st : Int), .int .i64 (ln : Int), .slice ea en ec]] w (Yes w) := by
  obtain ⟨hin, hall⟩ := decodeM_in hm
  clear hm
  obtain ⟨typ, sy, tag, place, ballot, val, es⟩ := m
  simp only at *
  obtain ⟨xs, how, hwe⟩ := hws
  cases es with
  | nil =>
    have hx : Value.slice ma mn mc = .slice none 0 0 := hes
    rw [hx]
    have he0 : en = 0 := by
      rcases how.2 with ⟨h, _⟩ | ⟨g', cap', cur, h, _⟩
      · simp at h; exact h.2.1
      · simp at h; exact h.2.1
    subst he0
    exact wire_nil g cap L typ tag place ballot st ln sy val a n c ea ec w hL hgw hbuf hv hwv hin
  | cons e r =>
    obtain ⟨E, hx, hE, hent⟩ := hes
    rw [hx]
    obtain ⟨G, ec', hx2⟩ := owns_form how (by simp)
    have hcap : (e :: r).length ≤ ec' ∧ G < w.heap.size ∧ ∀ i, i < (e :: r).length * 7 → w.cell? ⟨G, i, none⟩ = xs[i]? := by
      rw [hx2] at how
      refine ⟨?_, ?_, fun i hi => how.cellAt i hi⟩
      · rcases how.2 with ⟨h, _⟩ | ⟨g', cap', cur, h, _, hg, h3, _⟩
        · simp at h
        · simp at h; omega
      · rcases how.2 with ⟨h, _⟩ | ⟨g', cap', cur, h, _, hg, h3, _⟩
        · simp at h
        · simp at h
          rw [h.1]
          exact block_lt hg
    rw [hx2]
    have hEl : E < w.heap.size := block_lt_of_cell (hent 0 (by simp)).1
    exact wire_ents g cap L typ tag place ballot st ln sy val a n c (e :: r) E G ec' xs w (by simp) hlen hEl hcap.2.1 hent hwe hcap.2.2 hall hcap.1 hL hgw hbuf hv hwv hin
end Go.Proofs.Qxb6616623aFmt
