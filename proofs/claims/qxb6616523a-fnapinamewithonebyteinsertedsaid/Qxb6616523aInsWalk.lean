import Derived.Test.Qxb6616523aCutWalk
import Derived.BigQuiet
import Derived.Deep.QuietTactic
import Derived.Laws.IdiomStrings
import Derived.Laws.Concat
namespace Go.Proofs.Qxb6616523a
open Go.RowKit Go.Lib Go.Shelf

theorem zz8_any (s : ByteArray) (k c : Int) (w : World) (hs : s.size ≤ maxLen) :
    Calls Try.prog 8 #[.string s, .int .i64 k, .int .u8 c] w fun e w' => e = .returned (.bool (decide (s.size ≤ 1048576))) ∧ w = w' := by
  unfold maxLen at hs
  by_cases h : s.size ≤ 1048576
  · have hd : decide (s.size ≤ 1048576) = true := by simpa using h
    rw [hd]
    go_enter Try.func8, Try.ntmps8
    go_wp2
    go_ret
    exact ⟨rfl, rfl⟩
  · have hd : decide (s.size ≤ 1048576) = false := by simpa using h
    rw [hd]
    go_enter Try.func8, Try.ntmps8
    go_wp2
    go_ret
    exact ⟨rfl, rfl⟩

set_option maxHeartbeats 400000 in
theorem ins_out (a0 : ByteArray) (a1 c : Int) (w0 : a0.size ≤ maxLen) (w : World) (h : ¬ a0.size ≤ 1048576 ∨ ¬ a0.size ≤ 65536 ∨ a1 < 0 ∨ (a0.size : Int) < a1) :
    Calls Try.prog 4 #[.string a0, .int .i64 a1, .int .u8 c] w fun e w' => e = .returned (.bool true) ∧ Below w.heap.size w w' := by
  have hz := fun (W : World) => zz8_any a0 a1 c W w0
  by_cases hB : a0.size ≤ 1048576
  · have hd : decide (a0.size ≤ 1048576) = true := by simpa using hB
    simp only [hd] at hz
    by_cases h1 : a0.size ≤ 65536
    · by_cases h2 : a1 < 0
      · go_enter Try.func4, Try.ntmps4
        go_wp2_with (go_at_call 8; refine (hz _).mono ?_; rintro e w' ⟨rfl, rfl⟩)
        go_ret
        exact ⟨rfl, Below.refl _ _⟩
      · have h3 : (a0.size : Int) < a1 := by omega
        go_enter Try.func4, Try.ntmps4
        go_wp2_with (go_at_call 8; refine (hz _).mono ?_; rintro e w' ⟨rfl, rfl⟩)
        go_ret
        exact ⟨rfl, Below.refl _ _⟩
    · go_enter Try.func4, Try.ntmps4
      go_wp2_with (go_at_call 8; refine (hz _).mono ?_; rintro e w' ⟨rfl, rfl⟩)
      go_ret
      exact ⟨rfl, Below.refl _ _⟩
  · have hd : decide (a0.size ≤ 1048576) = false := by simpa using hB
    simp only [hd] at hz
    go_enter Try.func4, Try.ntmps4
    go_wp2_with (go_at_call 8; refine (hz _).mono ?_; rintro e w' ⟨rfl, rfl⟩)
    go_ret
    exact ⟨rfl, Below.refl _ _⟩

theorem one_byte (c : Nat) (hc : c < 256) (w : World) :
    (convert 25 9 (.slice (some ⟨w.heap.size, 0, none⟩) 1 1)).run Try.prog (w.alloc (.cells #[.int .u8 (c : Int)] 5)) = .ok (.string ⟨#[UInt8.ofNat c]⟩) (w.alloc (.cells #[.int .u8 (c : Int)] 5)) := by
  have hn : (UInt8.ofNat c).toNat = c := by simp; omega
  refine run_convert_bytes_back (w.alloc (.cells #[.int .u8 (c : Int)] 5)) 25 9 5 ⟨w.heap.size, 0, none⟩ 1 [UInt8.ofNat c] Try.underlying25 Try.underlying5 Try.underlying9 ?_
  intro j hj
  have hj0 : j = 0 := by simp at hj; omega
  subst hj0
  simp only [List.getElem_cons_zero, hn]
  simp [Addr.add]

theorem one_name (c : Nat) (hc : c < 256) : nameL (⟨#[UInt8.ofNat c]⟩ : ByteArray).data.toList = apiN c := by
  have hn : (UInt8.ofNat c).toNat = c := by simp; omega
  simp only [nameL, allApi, List.all_cons, List.all_nil, hn]
  simp

theorem ins_law (s : ByteArray) (n c : Nat) (hc : c < 256) : nameL (s.extract 0 n ++ ⟨#[UInt8.ofNat c]⟩ ++ s.extract n s.size).data.toList = (apiN c && (s.toList.isEmpty || nameL s.data.toList)) := by
  have hn : (UInt8.ofNat c).toNat = c := by simp; omega
  have e : (s.extract 0 n ++ ⟨#[UInt8.ofNat c]⟩ ++ s.extract n s.size).data.toList = s.data.toList.take n ++ ([UInt8.ofNat c] ++ s.data.toList.drop n) := by
    simp only [ByteArray.data_append, Array.toList_append, List.append_assoc]
    rw [extract_to_end, extract_data, List.drop_zero, Nat.sub_zero]
  have h1 : allApi s.data.toList = (allApi (s.data.toList.take n) && allApi (s.data.toList.drop n)) := by rw [← allApi_append, List.take_append_drop]
  have h2 : allApi [UInt8.ofNat c] = apiN c := by simp [allApi, hn]
  rw [e, Lib.toList_data]
  unfold nameL
  rw [allApi_append, allApi_append, h2, h1]
  have h3 : (s.data.toList.take n ++ ([UInt8.ofNat c] ++ s.data.toList.drop n)).isEmpty = false := by
    rw [List.isEmpty_eq_false_iff_exists_mem]; exact ⟨UInt8.ofNat c, by simp⟩
  rw [h3]
  by_cases he : s.data.toList = []
  · rw [he]; simp [allApi]
  · have h4 : s.data.toList.isEmpty = false := by simpa using he
    rw [h4]
    cases apiN c <;> cases allApi (s.data.toList.take n) <;> rfl

set_option maxHeartbeats 400000 in
theorem ins_in (a0 : ByteArray) (n c : Nat) (hc : c < 256) (w0 : a0.size ≤ maxLen) (w : World) (h1 : a0.size ≤ 65536) (h3 : n ≤ a0.size) :
    Calls Try.prog 4 #[.string a0, .int .i64 (n : Int), .int .u8 (c : Int)] w fun e w' => e = .returned (.bool true) ∧ Below w.heap.size w w' := by
  have hz := fun (W : World) => zz8_any a0 n c W w0
  have hd : decide (a0.size ≤ 1048576) = true := by simp; omega
  simp only [hd] at hz
  have hcv := one_byte c hc w
  have ho : (⟨#[UInt8.ofNat c]⟩ : ByteArray).size = 1 := rfl
  have c0 := fun (W : World) => zzName_any (⟨#[UInt8.ofNat c]⟩ : ByteArray) W
  rw [one_name c hc] at c0
  have c1 := fun (W : World) => zzName_any a0 W
  have c2 := fun (W : World) => zzName_any (a0.extract 0 n ++ ⟨#[UInt8.ofNat c]⟩ ++ a0.extract n a0.size) W
  rw [ins_law a0 n c hc] at c2
  have c3 := fun (W : World) => apiByte_any c W
  generalize (⟨#[UInt8.ofNat c]⟩ : ByteArray) = o at hcv ho c0 c2
  generalize nameL a0.data.toList = N at c1 c2
  generalize apiN c = A at c0 c2 c3
  have k1 := fun W => run_string_add_sum (P := Try.prog) (w := W) (a0.extract 0 n) o (by simp; omega)
  have k2 := fun W => run_string_add_sum (P := Try.prog) (w := W) (a0.extract 0 n ++ o) (a0.extract n a0.size) (by simp; omega)
  go_enter Try.func4, Try.ntmps4
  go_wp2_with (go_at_call 8; refine (hz _).mono ?_; rintro e w' ⟨rfl, rfl⟩)
  go_quiet (fail)
  clear k1 k2 hcv hz
  go_wp2_with fail
  refine (c0 _).mono ?_
  rintro e w1 ⟨rfl, hb1⟩
  go_wp2_with fail
  refine (c1 _).mono ?_
  rintro e w2 ⟨rfl, hb2⟩
  go_wp2_with fail
  refine (c2 _).mono ?_
  rintro e w3 ⟨rfl, hb3⟩
  have hb0 : Below w.heap.size w ((w.alloc (.cells #[.int .u8 (c : Int)] 5)).drewN nq) := below_drewN' ((Below.refl _ w).alloc (Nat.le_refl _) _) nq
  have hbb : Below w.heap.size w w3 := hb0.trans ((hb1.mono hb0.size).trans ((hb2.mono (Nat.le_trans hb0.size hb1.size)).trans (hb3.mono (Nat.le_trans hb0.size (Nat.le_trans hb1.size hb2.size)))))
  clear hb0 hb1 hb2 hb3
  go_wp2_with fail
  refine (c3 _).mono ?_
  rintro e w4 ⟨rfl, rfl⟩
  clear c0 c1 c2 c3
  go_wp2_with fail
  all_goals
    go_ret
    refine ⟨ret_bool ?_, hbb⟩
    clear hbb
    simp_all
end Go.Proofs.Qxb6616523a
