import Derived.Test.Qxb6616523aCut
import Derived.Lib.IndexBytes
namespace Go.Proofs.Qxb6616523a
open Go.RowKit Go.Lib Go.Shelf

set_option maxHeartbeats 400000 in
theorem cut_big (a0 : ByteArray) (a1 : Int) (w0 : a0.size ≤ maxLen) (w : World) (hB : ¬ a0.size ≤ 1048576) :
    Calls Try.prog 3 #[.string a0, .int .i64 a1] w fun e w' => e = .returned (.bool true) ∧ Below w.heap.size w w' := by
  have hz := fun (W : World) => zz_any a0 a1 W w0
  have hd : decide (a0.size ≤ 1048576) = false := by simpa using hB
  simp only [hd] at hz
  go_enter Try.func3, Try.ntmps3
  go_wp2_with (go_at_call 5; refine (hz _).mono ?_; rintro e w' ⟨rfl, rfl⟩)
  go_ret
  exact ⟨rfl, Below.refl _ _⟩

set_option maxHeartbeats 400000 in
theorem cut_out (a0 : ByteArray) (a1 : Int) (w0 : a0.size ≤ maxLen) (w : World) (hB : a0.size ≤ 1048576) (h : ¬ a0.size ≤ 65536 ∨ a1 < 0 ∨ (a0.size : Int) < a1) :
    Calls Try.prog 3 #[.string a0, .int .i64 a1] w fun e w' => e = .returned (.bool true) ∧ Below w.heap.size w w' := by
  have hz := fun (W : World) => zz_any a0 a1 W w0
  have hd : decide (a0.size ≤ 1048576) = true := by simpa using hB
  simp only [hd] at hz
  by_cases h1 : a0.size ≤ 65536
  · by_cases h2 : a1 < 0
    · go_enter Try.func3, Try.ntmps3
      go_wp2_with (go_at_call 5; refine (hz _).mono ?_; rintro e w' ⟨rfl, rfl⟩)
      go_ret
      exact ⟨rfl, Below.refl _ _⟩
    · have h3 : (a0.size : Int) < a1 := by omega
      go_enter Try.func3, Try.ntmps3
      go_wp2_with (go_at_call 5; refine (hz _).mono ?_; rintro e w' ⟨rfl, rfl⟩)
      go_ret
      exact ⟨rfl, Below.refl _ _⟩
  · go_enter Try.func3, Try.ntmps3
    go_wp2_with (go_at_call 5; refine (hz _).mono ?_; rintro e w' ⟨rfl, rfl⟩)
    go_ret
    exact ⟨rfl, Below.refl _ _⟩

theorem cut_law' (s : ByteArray) (n : Nat) (h : n ≤ s.size) : nameL s.data.toList = (!s.toList.isEmpty && (((n : Int) == 0) || nameL (s.extract 0 n).data.toList) && (((n : Int) == (s.size : Int)) || nameL (s.extract n s.size).data.toList)) := by
  have hl : s.size = s.data.toList.length := size_eq s
  have e1 : ((n : Int) == 0) = (n == 0) := by rw [Bool.eq_iff_iff]; simp
  have e2 : ((n : Int) == (s.size : Int)) = (n == s.data.toList.length) := by rw [Bool.eq_iff_iff, hl]; simp only [beq_iff_eq]; omega
  rw [e1, e2, extract_to_end, extract_data, List.drop_zero, Nat.sub_zero, Lib.toList_data]
  exact cut_law s.data.toList n (by omega)

set_option maxHeartbeats 400000 in
theorem cut_in (a0 : ByteArray) (n : Nat) (w0 : a0.size ≤ maxLen) (w : World) (h1 : a0.size ≤ 65536) (h3 : n ≤ a0.size) :
    Calls Try.prog 3 #[.string a0, .int .i64 (n : Int)] w fun e w' => e = .returned (.bool true) ∧ Below w.heap.size w w' := by
  have hz := fun (W : World) => zz_any a0 n W w0
  have hd : decide (a0.size ≤ 1048576) = true := by simp; omega
  simp only [hd] at hz
  have c0 := fun (W : World) => zzName_any a0 W
  have c1 := fun (W : World) => zzName_any (a0.extract 0 n) W
  have c2 := fun (W : World) => zzName_any (a0.extract n a0.size) W
  have c3 := fun (W : World) => apiBytes_any a0 W w0
  have HL := cut_law' a0 n h3
  generalize nameL a0.data.toList = A at c0 c3 HL
  generalize nameL (a0.extract 0 n).data.toList = L at c1 HL
  generalize nameL (a0.extract n a0.size).data.toList = R at c2 HL
  have HH : Hid (A = (!a0.toList.isEmpty && (((n : Int) == 0) || L) && (((n : Int) == (a0.size : Int)) || R))) := HL
  clear HL
  go_enter Try.func3, Try.ntmps3
  go_wp2_with (go_at_call 5; refine (hz _).mono ?_; rintro e w' ⟨rfl, rfl⟩)
  refine (c0 _).mono ?_
  rintro e w1 ⟨rfl, hb1⟩
  go_wp2_with fail
  refine (c1 _).mono ?_
  rintro e w2 ⟨rfl, hb2⟩
  go_wp2_with fail
  refine (c2 _).mono ?_
  rintro e w3 ⟨rfl, hb3⟩
  have hbb : Below w.heap.size w w3 := hb1.trans ((hb2.mono hb1.size).trans (hb3.mono (Nat.le_trans hb1.size hb2.size)))
  clear hb1 hb2 hb3
  go_wp2_with fail
  refine (c3 _).mono ?_
  rintro e w4 ⟨rfl, rfl⟩
  clear c0 c1 c2 c3 hz
  go_wp2_with fail
  all_goals
    go_ret
    refine ⟨ret_bool ?_, hbb⟩
    have h := HH.out
    clear HH hbb
    simp_all
end Go.Proofs.Qxb6616523a
