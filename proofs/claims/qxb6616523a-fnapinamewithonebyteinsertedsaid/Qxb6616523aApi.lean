/-
  The walks of the functions that both laws of seat b6616523a call: isAPIName, its literal, ZZisAPIName, apiByte, apiBytes.
-/
import Derived.Test.Qxb6616523aShelf
import Derived.Test.Qxb6616523aPlain
import Derived.WalkKit
import Derived.Below
namespace Go.Proofs.Qxb6616523a
open Go.RowKit Go.Lib Go.Shelf

theorem toList_data (s : ByteArray) : s.toList = s.data.toList := ByteArray.toList_eq s
theorem ret_bool {a b : Bool} (h : a = b) : Ending.returned (.bool a) = .returned (.bool b) := by rw [h]

theorem lit_pays (w : World) : PredAt Try.prog 11 #[] encR notName w := fun W r _ => by
  unfold FnGives
  by_cases h1 : r < 48 <;> by_cases h2 : r ≤ 57 <;> by_cases h3 : r < 65 <;> by_cases h4 : r ≤ 90
  all_goals first | (exfalso; omega) | skip
  all_goals
    have z1 : ((r : Int) < 48) ↔ r < 48 := by omega
    have z2 : ((r : Int) ≤ 57) ↔ r ≤ 57 := by omega
    have z3 : ((r : Int) < 65) ↔ r < 65 := by omega
    have z4 : ((r : Int) ≤ 90) ↔ r ≤ 90 := by omega
    go_enter Try.func11, Try.ntmps11
    go_wp2
    all_goals first | (exfalso; omega) | (go_ret; refine ⟨ret_bool ?_, 0, rfl⟩; rw [Bool.eq_iff_iff]; simp [notName, apiN]; omega)

theorem isName_any (s : ByteArray) (w : World) :
    Calls Try.prog 10 #[.string s] w fun e w' => e = .returned (.bool (nameL s.data.toList)) ∧ Below w.heap.size w w' := by
  have hC := fun (W : World) => Try.strings_ContainsFunc 11 #[] (enters_of Try.func11 (by kernel_rfl) rfl) notName s W (lit_pays W)
  simp only [idx_all] at hC
  obtain ⟨A, hA⟩ : ∃ A, allApi s.data.toList = A := ⟨_, rfl⟩
  rw [hA] at hC
  unfold nameL
  rw [hA]
  clear hA
  go_enter Try.func10, Try.ntmps10
  go_wp2_with (go_at_call 12; refine (hC _).mono ?_; rintro e w' ⟨rfl, hb⟩)
  · rename_i h0
    go_ret
    exact ⟨ret_bool (by rw [Bool.eq_iff_iff]; rw [toList_data] at h0; simp [h0]), Below.refl _ _⟩
  · go_ret
    exact ⟨ret_bool (by rw [toList_data]), hb⟩

theorem zzName_any (s : ByteArray) (w : World) :
    Calls Try.prog 6 #[.string s] w fun e w' => e = .returned (.bool (nameL s.data.toList)) ∧ Below w.heap.size w w' := by
  have hC := fun (W : World) => isName_any s W
  obtain ⟨A, hA⟩ : ∃ A, nameL s.data.toList = A := ⟨_, rfl⟩
  rw [hA]
  rw [hA] at hC
  go_enter Try.func6, Try.ntmps6
  go_wp2_with (go_at_call 10; refine (hC _).mono ?_; rintro e w' ⟨rfl, hb⟩)
  go_ret
  exact ⟨rfl, hb⟩

theorem apiByte_any (n : Nat) (w : World) :
    Calls Try.prog 9 #[.int .u8 (n : Int)] w fun e w' => e = .returned (.bool (apiN n)) ∧ w = w' := by
  by_cases h1 : n < 48 <;> by_cases h2 : n ≤ 57 <;> by_cases h3 : n < 65 <;> by_cases h4 : n ≤ 90 <;> by_cases h5 : n = 95
  all_goals first | (exfalso; omega) | skip
  all_goals
    have z1 : ((n : Int) < 48) ↔ n < 48 := by omega
    have z2 : ((n : Int) ≤ 57) ↔ n ≤ 57 := by omega
    have z3 : ((n : Int) < 65) ↔ n < 65 := by omega
    have z4 : ((n : Int) ≤ 90) ↔ n ≤ 90 := by omega
    go_enter Try.func9, Try.ntmps9
    go_wp2
    all_goals first | (exfalso; omega) | (go_ret; refine ⟨ret_bool ?_, rfl⟩; rw [Bool.eq_iff_iff]; simp [apiN]; omega)
end Go.Proofs.Qxb6616523a
