/-
  The walks of zzB1SameValue and zzB1IsZero.
-/
import Derived.Test.Qxb6616623aFmtParse1
import Derived.Lib.LazyBuf
import Derived.Deep.QuietTactic
import Derived.BigQuiet
namespace Go.Proofs.Qxb6616623aFmt
open Go.RowKit Go.Lib Go.Shelf
set_option linter.unusedVariables false

def Yes (w : World) (e : Ending) (w' : World) : Prop := e = .returned (.bool true) ∧ Below w.heap.size w w'

theorem drewN_bel (B : Nat) {w wr : World} (h : Below B w wr) (n : Nat) : Below B w (wr.drewN n) := h.trans ⟨rfl, rfl, rfl, Nat.le_refl _, fun _ _ => rfl⟩

set_option maxHeartbeats 1000000 in
theorem same_none (a : Option Addr) (N cap : Nat) (st ln : Int) (w : World) : Calls Tryf.prog 24 #[.slice none 0 0, .bool false, .slice a N cap, .int .i64 st, .int .i64 ln] w (Yes w) := by
  have hnil := fun (W : World) => run_eql_slice_nil (P := Tryf.prog) W 22 5 none 0 0 Tryf.underlying22
  go_enter Tryf.func24, Tryf.ntmps24
  go_wp2
  go_ret
  exact ⟨rfl, Below.refl _ _⟩

set_option maxHeartbeats 2000000 in
theorem same_some (g cap : Nat) (L : List UInt8) (a : Addr) (s k : Nat) (w : World) (hL : L.length ≤ 1048576) (hgw : g < w.heap.size) (hbuf : BufAt w g 0 L) (hsk : s + k ≤ L.length) (ha : 0 < k → a = ⟨g, s, none⟩) :
    Calls Tryf.prog 24 #[.slice (some a) k k, .bool true, .slice (some ⟨g, 0, none⟩) L.length cap, .int .i64 (s : Int), .int .i64 (k : Int)] w (Yes w) := by
  have HBUF : Hid (BufAt w g 0 L) := hbuf
  have HA : Hid (0 < k → a = ⟨g, s, none⟩) := ha
  have hnil := fun (W : World) => run_eql_slice_nil (P := Tryf.prog) W 22 5 (some a) k k Tryf.underlying22
  clear hbuf ha
  go_enter Tryf.func24, Tryf.ntmps24
  go_wp2
  go_loopw [11] (fun c wr => ∃ j : Nat, j ≤ k ∧ c = .int .i64 (j : Int) ∧ Below w.heap.size w wr) (fun c _ => k - (RowKit.intOf c).toNat)
  case atStart => exact ⟨0, Nat.zero_le _, rfl, Below.refl _ _⟩
  case round =>
    obtain ⟨j, hj, rfl, hbel⟩ := hrel
    have HBEL : Hid (Below w.heap.size w wr) := hbel
    clear hnil
    by_cases hjk : j < k
    · have hby := (buf_below HBUF.out hbel hgw) (s + j) (by omega)
      rw [Nat.zero_add] at hby
      have hae := HA.out (by omega)
      subst hae
      clear hbel
      generalize (L[s + j]).toNat = b at hby
      go_wp2
      go_quiet (fail)
      go_wp2
      go_roundw
      case rel => exact ⟨j + 1, by omega, by simp, drewN_bel _ HBEL.out _⟩
      case measure => simp [RowKit.intOf]; omega
    · clear hbel
      go_wp2
      go_ret
      exact ⟨rfl, HBEL.out⟩

/-- zzB1SameValue on what DecodeMessage and the law's reader say of one value. -/
theorem same_any (g cap : Nat) (L : List UInt8) (v : Option (Nat × Nat)) (a : Option Addr) (n c st ln : Nat) (w : World) (hL : L.length ≤ 1048576) (hgw : g < w.heap.size) (hbuf : BufAt w g 0 L) (hv : ValIs g 0 v (.slice a n c)) (hw : WV v st ln) (hin : ∀ s k, v = some (s, k) → s + k ≤ L.length) :
    Calls Tryf.prog 24 #[.slice a n c, .bool v.isSome, .slice (some ⟨g, 0, none⟩) L.length cap, .int .i64 (st : Int), .int .i64 (ln : Int)] w (Yes w) := by
  cases v with
  | none =>
    have hx : Value.slice a n c = .slice none 0 0 := hv
    rw [hx]
    exact same_none _ _ _ _ _ w
  | some y =>
    obtain ⟨s, k⟩ := y
    obtain ⟨a', hx, ha⟩ := hv
    obtain ⟨rfl, rfl⟩ := hw s k rfl
    rw [hx]
    refine same_some g cap L a' st ln w hL hgw hbuf (hin _ _ rfl) (fun h => ?_)
    rw [ha h, Nat.zero_add]

set_option maxRecDepth 100000 in
set_option maxHeartbeats 2000000 in
theorem zero_yes (w : World) : Calls Tryf.prog 10 #[.agg zeroMsg] w (Yes w) := by
  have hnil := fun (W : World) => run_eql_slice_nil (P := Tryf.prog) W 22 5 none 0 0 Tryf.underlying22
  have hnil2 := fun (W : World) => run_eql_slice_nil (P := Tryf.prog) W 33 47 none 0 0 Tryf.underlying33
  unfold zeroMsg
  go_enter Tryf.func10, Tryf.ntmps10
  go_wp2
  go_ret
  exact ⟨rfl, (Below.refl _ w).alloc (Nat.le_refl _) _⟩
end Go.Proofs.Qxb6616623aFmt
