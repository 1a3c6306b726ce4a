import Derived.Test.Qxb6616523aApi
namespace Go.Proofs.Qxb6616523a
open Go.RowKit Go.Lib Go.Shelf

theorem take_snoc (s : ByteArray) (k : Nat) (h : k < s.size) : s.data.toList.take (k + 1) = s.data.toList.take k ++ [s[k]] := by
  rw [List.take_succ_eq_append_getElem (by simpa using h)]; rfl

theorem all_false_of (s : ByteArray) (k : Nat) (h : k < s.size) (hf : apiN s[k].toNat = false) : nameL s.data.toList = false := by
  have h1 : s.data.toList = s.data.toList.take (k + 1) ++ s.data.toList.drop (k + 1) := (List.take_append_drop _ _).symm
  rw [nameL, h1, take_snoc s k h, allApi_append, allApi_append]
  simp [allApi, hf]

set_option maxHeartbeats 400000 in
theorem apiBytes_any (s : ByteArray) (w : World) (hs : s.size ≤ maxLen) :
    Calls Try.prog 7 #[.string s] w fun e w' => e = .returned (.bool (nameL s.data.toList)) ∧ w = w' := by
  unfold maxLen at hs
  by_cases h0 : s.toList.isEmpty = true
  · go_enter Try.func7, Try.ntmps7
    go_wp2
    go_ret
    exact ⟨ret_bool (by rw [toList_data] at h0; simp [nameL, h0]), rfl⟩
  · simp only [Bool.not_eq_true] at h0
    go_enter Try.func7, Try.ntmps7
    go_wp2
    go_loop [3] (fun i => ∃ k : Nat, k ≤ s.size ∧ i = .int .i64 k ∧ allApi (s.data.toList.take k) = true) (fun i => s.size - (intOf i).toNat)
    case atStart => exact ⟨0, Nat.zero_le _, rfl, rfl⟩
    case round =>
      obtain ⟨k, hk, rfl, hall⟩ := hrel
      have HA : Hid (allApi (s.data.toList.take k) = true) := hall
      clear hall
      by_cases hlt : k < s.size
      · by_cases hb : apiN s[k].toNat = true
        · go_wp2_with (go_at_call 9; refine (apiByte_any _ _).mono ?_; rintro e w' ⟨rfl, rfl⟩)
          go_round
          case rel => exact ⟨k + 1, by omega, by go_num, by rw [take_snoc s k hlt, allApi_append, HA.out]; simp [allApi, hb]⟩
          case measure => simp [intOf]; omega
        · simp only [Bool.not_eq_true] at hb
          go_wp2_with (go_at_call 9; refine (apiByte_any _ _).mono ?_; rintro e w' ⟨rfl, rfl⟩)
          go_ret
          exact ⟨ret_bool (all_false_of s k hlt hb).symm, rfl⟩
      · go_wp2
        go_ret
        refine ⟨ret_bool ?_, rfl⟩
        have h1 := HA.out
        rw [List.take_of_length_le (by simp; omega)] at h1
        rw [toList_data] at h0
        simp [nameL, h1, h0]
end Go.Proofs.Qxb6616523a
