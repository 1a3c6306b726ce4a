/-
  The walks of (*number).compare and ZZcompare.
-/
import Derived.Test.Qxb6616563aRead
import Derived.BigQuiet
import Derived.Deep.QuietTactic
namespace Go.Proofs.Qxb6616563a
open Go.RowKit

theorem cmp_zero (w : World) : Calls Try.prog 47 #[.int .i64 0, .int .i64 0] w fun e w' => e = .returned (.int .i64 0) ∧ w' = w := by
  go_enter Try.func47, Try.ntmps47
  go_wp2
  go_ret
  exact ⟨rfl, rfl⟩

theorem alg_empty (a1 a2 : Option Addr) (c1 c2 : Nat) (w : World) : (callFunc 60 #[.slice a1 0 c1, .slice a2 0 c2]).run Try.prog w = .ok (.value (.int .i64 0)) w := by
  cases a1 <;> cases a2 <;> kernel_rfl

theorem bcmp_empty (a1 a2 : Option Addr) (c1 c2 : Nat) (w : World) : Calls Try.prog 48 #[.slice a1 0 c1, .slice a2 0 c2] w fun e w' => e = .returned (.int .i64 0) ∧ w' = w := by
  have h := alg_empty a1 a2 c1 c2 w
  go_enter Try.func48, Try.ntmps48
  go_wp2
  go_ret
  exact ⟨rfl, rfl⟩

set_option maxHeartbeats 2000000 in
theorem compare_eq (X Y : Nat) (w : World) (hX : NumAt w X false 0 0) (hY : NumAt w Y false 0 0) :
    Calls Try.prog 42 #[.pointer (some ⟨X, 0, none⟩), .pointer (some ⟨Y, 0, none⟩)] w fun e w' => e = .returned (.int .i64 0) ∧ ∃ q, w' = w.drewN q := by
  obtain ⟨x0, ⟨ax1, cx1, x1⟩, ⟨ax2, cx2, x2⟩, _⟩ := hX
  obtain ⟨y0, ⟨ay1, cy1, y1⟩, ⟨ay2, cy2, y2⟩, _⟩ := hY
  go_enter Try.func42, Try.ntmps42
  go_wp2
  go_quiet (fail)
  go_wp2
  go_quiet ((go_at_call 47; exact (cmp_zero _).mono fun _ _ h => ⟨h.1, _, h.2⟩))
  go_wp2
  go_quiet ((go_at_call 48; exact (bcmp_empty _ _ _ _ _).mono fun _ _ h => ⟨h.1, _, h.2⟩))
  go_wp2
  go_quiet ((go_at_call 48; exact (bcmp_empty _ _ _ _ _).mono fun _ _ h => ⟨h.1, _, h.2⟩))
  go_wp2
  go_ret
  exact ⟨rfl, _, rfl⟩

set_option maxHeartbeats 2000000 in
theorem compare_gt (X Y WL FL WL' FL' : Nat) (w : World) (hX : NumAt w X false WL FL) (hY : NumAt w Y true WL' FL') :
    Calls Try.prog 42 #[.pointer (some ⟨X, 0, none⟩), .pointer (some ⟨Y, 0, none⟩)] w fun e w' => e = .returned (.int .i64 1) ∧ ∃ q, w' = w.drewN q := by
  obtain ⟨x0, _⟩ := hX
  obtain ⟨y0, _⟩ := hY
  go_enter Try.func42, Try.ntmps42
  go_wp2
  go_quiet (fail)
  go_wp2
  go_ret
  exact ⟨rfl, _, rfl⟩

set_option maxHeartbeats 2000000 in
theorem compare_lt (X Y WL FL WL' FL' : Nat) (w : World) (hX : NumAt w X true WL FL) (hY : NumAt w Y false WL' FL') :
    Calls Try.prog 42 #[.pointer (some ⟨X, 0, none⟩), .pointer (some ⟨Y, 0, none⟩)] w fun e w' => e = .returned (.int .i64 (-1)) ∧ ∃ q, w' = w.drewN q := by
  obtain ⟨x0, _⟩ := hX
  obtain ⟨y0, _⟩ := hY
  go_enter Try.func42, Try.ntmps42
  go_wp2
  go_quiet (fail)
  go_wp2
  go_ret
  exact ⟨rfl, _, rfl⟩

set_option maxHeartbeats 1000000 in
theorem zzcmp_of {X Y : Nat} {z : Int} {w : World} (h : Calls Try.prog 42 #[.pointer (some ⟨X, 0, none⟩), .pointer (some ⟨Y, 0, none⟩)] w fun e w' => e = .returned (.int .i64 z) ∧ ∃ q, w' = w.drewN q) :
    Calls Try.prog 32 #[.pointer (some ⟨X, 0, none⟩), .pointer (some ⟨Y, 0, none⟩)] w fun e w' => e = .returned (.int .i64 z) ∧ ∃ q, w' = w.drewN q := by
  go_enter Try.func32, Try.ntmps32
  go_wp2_with fail
  refine h.mono ?_
  rintro e w' ⟨rfl, q, rfl⟩
  go_wp2
  go_ret
  exact ⟨rfl, q, rfl⟩
end Go.Proofs.Qxb6616563a
