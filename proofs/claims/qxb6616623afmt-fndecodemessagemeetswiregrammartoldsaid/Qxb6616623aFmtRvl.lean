/-
  The walk of zzB1ReadValue.
-/
import Derived.Test.Qxb6616623aFmtRv
namespace Go.Proofs.Qxb6616623aFmt
open Go.RowKit Go.Lib Go.Shelf
set_option linter.unusedVariables false

theorem results_tmp5 {fn : Func} {t u v x y : Tmp} (h : fn.results = #[.tmp t, .tmp u, .tmp v, .tmp x, .tmp y]) (tmps : Array Value) (P : Program) (w : World) :
    (results fn tmps).run P w = .ok (.tuple #[tmps.getD t undef, tmps.getD u undef, tmps.getD v undef, tmps.getD x undef, tmps.getD y undef]) w := by
  simp [results, h]

def gVal (L : List UInt8) (p : Nat) : Bool × Nat × Nat × Nat × Bool :=
  match rVal L p with
  | none => (false, 0, 0, p, false)
  | some (none, q) => (false, q, 0, q, true)
  | some (some (s, k), q) => (true, s, k, q, true)

def VvPost (L : List UInt8) (p : Nat) (w : World) (e : Ending) (w' : World) : Prop :=
  e = .returned (.tuple #[.bool (gVal L p).1, .int .i64 ((gVal L p).2.1 : Int), .int .i64 ((gVal L p).2.2.1 : Int), .int .i64 ((gVal L p).2.2.2.1 : Int), .bool (gVal L p).2.2.2.2]) ∧ w = w'

set_option maxHeartbeats 2000000 in
theorem rvl_none (a : Option Addr) (cap N p : Nat) (w : World) (hN : N ≤ 1048576)
    (h : Calls Tryf.prog 14 #[.slice a N cap, .int .i64 (p : Int)] w fun e w' => e = .returned (.tuple #[.int .u64 0, .int .i64 (p : Int), .bool false]) ∧ w = w') :
    Calls Tryf.prog 15 #[.slice a N cap, .int .i64 (p : Int)] w fun e w' => e = .returned (.tuple #[.bool false, .int .i64 0, .int .i64 0, .int .i64 (p : Int), .bool false]) ∧ w = w' := by
  go_enter Tryf.func15, Tryf.ntmps15
  go_wp2_with fail
  refine h.mono ?_
  rintro e w' ⟨rfl, rfl⟩
  go_wp2_with fail
  refine bodyPost_ret (results_tmp5 rfl _ _ _) rfl ?_
  exact ⟨rfl, rfl⟩

set_option maxHeartbeats 2000000 in
theorem rvl_zero (a : Option Addr) (cap N p q : Nat) (w : World) (hN : N ≤ 1048576)
    (h : Calls Tryf.prog 14 #[.slice a N cap, .int .i64 (p : Int)] w fun e w' => e = .returned (.tuple #[.int .u64 0, .int .i64 (q : Int), .bool true]) ∧ w = w') :
    Calls Tryf.prog 15 #[.slice a N cap, .int .i64 (p : Int)] w fun e w' => e = .returned (.tuple #[.bool false, .int .i64 (q : Int), .int .i64 0, .int .i64 (q : Int), .bool true]) ∧ w = w' := by
  go_enter Tryf.func15, Tryf.ntmps15
  go_wp2_with fail
  refine h.mono ?_
  rintro e w' ⟨rfl, rfl⟩
  go_wp2_with fail
  refine bodyPost_ret (results_tmp5 rfl _ _ _) rfl ?_
  exact ⟨rfl, rfl⟩

set_option maxRecDepth 100000 in
set_option maxHeartbeats 400000 in
theorem rvl_short (a : Option Addr) (cap p q : Nat) (w : World) (n r : Nat) (hm : n < 18446744073709551616) (hn : 0 < n) (hN : q + r ≤ 1048576) (hs : (r : Int) < (n : Int) - 1)
    (h : Calls Tryf.prog 14 #[.slice a (q + r) cap, .int .i64 (p : Int)] w fun e w' => e = .returned (.tuple #[.int .u64 (n : Int), .int .i64 (q : Int), .bool true]) ∧ w = w') :
    Calls Tryf.prog 15 #[.slice a (q + r) cap, .int .i64 (p : Int)] w fun e w' => e = .returned (.tuple #[.bool false, .int .i64 0, .int .i64 0, .int .i64 (p : Int), .bool false]) ∧ w = w' := by
  have hr1 : r ≤ 1048576 := by omega
  have hn0 : ¬ n = 0 := by omega
  go_enter Tryf.func15, Tryf.ntmps15
  go_wp2_with fail
  refine h.mono ?_
  rintro e w' ⟨rfl, rfl⟩
  clear h
  go_wp2_with fail
  refine bodyPost_ret (results_tmp5 rfl _ _ _) rfl ?_
  exact ⟨rfl, rfl⟩

set_option maxRecDepth 100000 in
set_option maxHeartbeats 400000 in
theorem rvl_ok (a : Option Addr) (cap p q : Nat) (w : World) (n r : Nat) (hm : n < 18446744073709551616) (hn : 0 < n) (hN : q + r ≤ 1048576) (hs : ¬ (r : Int) < (n : Int) - 1)
    (h : Calls Tryf.prog 14 #[.slice a (q + r) cap, .int .i64 (p : Int)] w fun e w' => e = .returned (.tuple #[.int .u64 (n : Int), .int .i64 (q : Int), .bool true]) ∧ w = w') :
    Calls Tryf.prog 15 #[.slice a (q + r) cap, .int .i64 (p : Int)] w fun e w' => e = .returned (.tuple #[.bool true, .int .i64 (q : Int), .int .i64 ((n : Int) - 1), .int .i64 ((q : Int) + ((n : Int) - 1)), .bool true]) ∧ w = w' := by
  have hr1 : r ≤ 1048576 := by omega
  have hn0 : ¬ n = 0 := by omega
  go_enter Tryf.func15, Tryf.ntmps15
  go_wp2_with fail
  refine h.mono ?_
  rintro e w' ⟨rfl, rfl⟩
  clear h
  go_wp2_with fail
  refine bodyPost_ret (results_tmp5 rfl _ _ _) rfl ?_
  exact ⟨rfl, rfl⟩

theorem rvl_any (g cap : Nat) (L : List UInt8) (p : Nat) (w : World) (hp : p ≤ L.length) (hL : L.length ≤ 1048576) (hbuf : BufAt w g 0 L) :
    Calls Tryf.prog 15 #[.slice (some ⟨g, 0, none⟩) L.length cap, .int .i64 (p : Int)] w (VvPost L p w) := by
  have h := rv_any g cap L p w hp hL hbuf
  unfold RvPost at h
  unfold VvPost
  cases hr : rVar L p with
  | none =>
    have hg : gVar L p = (0, p, false) := by unfold gVar; rw [hr]
    have hv : gVal L p = (false, 0, 0, p, false) := by unfold gVal rVal; rw [hr]
    rw [hg] at h
    rw [hv]
    exact rvl_none _ cap _ p w hL h
  | some y =>
    obtain ⟨n, q⟩ := y
    obtain ⟨hpq, hq, hn64, _⟩ := rVar_some hr
    have hg : gVar L p = (n, q, true) := by unfold gVar; rw [hr]
    rw [hg] at h
    by_cases h0 : n = 0
    · subst h0
      have hv : gVal L p = (false, q, 0, q, true) := by unfold gVal rVal; rw [hr]; rfl
      rw [hv]
      exact rvl_zero _ cap _ p q w hL h
    · obtain ⟨m, rfl⟩ : ∃ m, n = m + 1 := ⟨n - 1, by omega⟩
      have hm1 : ((m + 1 : Nat) : Int) = (m : Int) + 1 := by omega
      obtain ⟨r, hr'⟩ : ∃ r, L.length = q + r := ⟨L.length - q, by omega⟩
      by_cases hs : r < m
      · have hv : gVal L p = (false, 0, 0, p, false) := by
          unfold gVal rVal
          rw [hr]
          simp only
          rw [if_neg h0, if_pos (by omega)]
        rw [hv]
        rw [hr'] at h ⊢
        exact rvl_short _ cap p q w (m + 1) r hn64 (by omega) (by omega) (by omega) h
      · have hv : gVal L p = (true, q, m, q + m, true) := by
          unfold gVal rVal
          rw [hr]
          simp only
          rw [if_neg h0, if_neg (by omega)]
          rfl
        rw [hv]
        rw [hr'] at h ⊢
        have := rvl_ok _ cap p q w (m + 1) r hn64 (by omega) (by omega) (by omega) h
        rw [hm1, show (m : Int) + 1 - 1 = (m : Int) by omega] at this
        simp only [Int.natCast_add]
        exact this
end Go.Proofs.Qxb6616623aFmt
