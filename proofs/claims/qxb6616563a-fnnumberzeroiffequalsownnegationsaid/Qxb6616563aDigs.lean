/-
  Walks of seat b6616563a: isDigit, b1IsDigit, b1DigitsAllZero.
-/
import Derived.Test.Qxb6616563aRows
import Derived.Test.Qxb6616563aPlain
import Derived.WalkKit
import Derived.Below
namespace Go.Proofs.Qxb6616563a
open Go.RowKit

theorem ret_bool {a b : Bool} (h : a = b) : Ending.returned (.bool a) = .returned (.bool b) := by rw [h]

/-- The bytes of a slice: cell i holds f i. -/
def Bts (w : World) (b off n : Nat) (f : Nat → Nat) : Prop := ∀ i, i < n → w.cell? ⟨b, off + i, none⟩ = some (.int .u8 (f i : Int))

theorem digit40 (n : Nat) (w : World) : Calls Try.prog 40 #[.int .u8 (n : Int)] w fun e w' => e = .returned (.bool (dig n)) ∧ w = w' := by
  by_cases h1 : 48 ≤ n <;> by_cases h2 : n ≤ 57
  all_goals
    have z1 : (48 : Int) ≤ (n : Int) ↔ 48 ≤ n := by omega
    have z2 : (n : Int) ≤ 57 ↔ n ≤ 57 := by omega
    go_enter Try.func40, Try.ntmps40
    go_wp2
    all_goals first | (exfalso; omega) | (go_ret; exact ⟨ret_bool (by simp [dig, h1, h2]), rfl⟩)

theorem digit53 (n : Nat) (w : World) : Calls Try.prog 53 #[.int .u8 (n : Int)] w fun e w' => e = .returned (.bool (dig n)) ∧ w = w' := by
  by_cases h1 : 48 ≤ n <;> by_cases h2 : n ≤ 57
  all_goals
    have z1 : (48 : Int) ≤ (n : Int) ↔ 48 ≤ n := by omega
    have z2 : (n : Int) ≤ 57 ↔ n ≤ 57 := by omega
    go_enter Try.func53, Try.ntmps53
    go_wp2
    all_goals first | (exfalso; omega) | (go_ret; exact ⟨ret_bool (by simp [dig, h1, h2]), rfl⟩)

set_option maxHeartbeats 400000 in
theorem allZ_any (b off n cap : Nat) (f : Nat → Nat) (w : World) (hn : n ≤ 1048576) (hc : Bts w b off n f) :
    Calls Try.prog 30 #[.slice (some ⟨b, off, none⟩) n cap] w fun e w' => e = .returned (.bool (allZ f n)) ∧ w = w' := by
  go_enter Try.func30, Try.ntmps30
  go_wp2
  go_loop [3] (fun i => ∃ k : Nat, k ≤ n ∧ i = .int .i64 k ∧ ∀ j, j < k → dig (f j) = true → f j = 48) (fun i => n - (intOf i).toNat)
  case atStart => exact ⟨0, Nat.zero_le _, rfl, fun j h => by omega⟩
  case round =>
    obtain ⟨k, hk, rfl, hall⟩ := hrel
    have HA : Hid (∀ j, j < k → dig (f j) = true → f j = 48) := hall
    clear hall
    by_cases hlt : k < n
    · have hck := hc k hlt
      have HC : Hid (Bts w b off n f) := hc
      clear hc
      by_cases hd : dig (f k) = true
      · by_cases hz : f k = 48
        · have hb : ((f k : Int) != 48) = false := by simp [hz]
          have HZ : Hid (f k = 48) := hz
          clear hz
          go_wp2_with (go_at_call 40; refine (digit40 _ _).mono ?_; rintro e w' ⟨rfl, rfl⟩)
          go_round
          case rel => exact ⟨k + 1, by omega, by go_num, fun j hj hdj => if h : j = k then by rw [h]; exact HZ.out else HA.out j (by omega) hdj⟩
          case measure => simp [intOf]; omega
        · have hb : ((f k : Int) != 48) = true := by simp; omega
          go_wp2_with (go_at_call 40; refine (digit40 _ _).mono ?_; rintro e w' ⟨rfl, rfl⟩)
          go_ret
          exact ⟨ret_bool (by symm; unfold allZ; simp only [decide_eq_false_iff_not]; intro hh; exact hz (hh k hlt hd)), rfl⟩
      · simp only [Bool.not_eq_true] at hd
        go_wp2_with (go_at_call 40; refine (digit40 _ _).mono ?_; rintro e w' ⟨rfl, rfl⟩)
        go_round
        case rel => exact ⟨k + 1, by omega, by go_num, fun j hj hdj => if h : j = k then by rw [h] at hdj; rw [hd] at hdj; cases hdj else HA.out j (by omega) hdj⟩
        case measure => simp [intOf]; omega
    · clear hc
      go_wp2
      go_ret
      refine ⟨ret_bool ?_, rfl⟩
      symm
      unfold allZ
      simp only [decide_eq_true_eq]
      exact fun j hj => HA.out j (by omega)
end Go.Proofs.Qxb6616563a
