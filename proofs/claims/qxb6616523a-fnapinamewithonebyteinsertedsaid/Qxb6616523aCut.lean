import Derived.Test.Qxb6616523aBytes
import Derived.Lib.Strings
namespace Go.Proofs.Qxb6616523a
open Go.RowKit Go.Lib Go.Shelf

theorem cut_law (l : List UInt8) (n : Nat) (h : n ≤ l.length) : nameL l = (!l.isEmpty && (n == 0 || nameL (l.take n)) && (n == l.length || nameL (l.drop n))) := by
  have h1 : allApi l = (allApi (l.take n) && allApi (l.drop n)) := by rw [← allApi_append, List.take_append_drop]
  unfold nameL
  rw [h1]
  by_cases h0 : n = 0
  · subst h0
    by_cases he : l = []
    · subst he; rfl
    · have hl : 0 < l.length := List.length_pos_iff.mpr he
      have : (0 == l.length) = false := by rw [beq_eq_false_iff_ne]; omega
      simp [allApi, this]
  · by_cases h2 : n = l.length
    · subst h2
      have : (l.length == 0) = false := by rw [beq_eq_false_iff_ne]; exact h0
      simp [allApi, this]
    · have e1 : (l.take n).isEmpty = false := by
        cases l with
        | nil => simp at h; omega
        | cons a t => cases n with
          | zero => omega
          | succ m => rfl
      have e2 : (l.drop n).isEmpty = false := by
        rw [List.isEmpty_eq_false_iff_exists_mem]
        exact ⟨_, List.getElem_mem (n := 0) (by simp; omega)⟩
      have e3 : (n == 0) = false := by rw [beq_eq_false_iff_ne]; exact h0
      have e4 : (n == l.length) = false := by rw [beq_eq_false_iff_ne]; exact h2
      have e5 : l.isEmpty = false := by
        cases l with
        | nil => simp at h; omega
        | cons a t => rfl
      simp [e1, e2, e3, e4, e5]

theorem zz_any (s : ByteArray) (k : Int) (w : World) (hs : s.size ≤ maxLen) :
    Calls Try.prog 5 #[.string s, .int .i64 k] w fun e w' => e = .returned (.bool (decide (s.size ≤ 1048576))) ∧ w = w' := by
  unfold maxLen at hs
  by_cases h : s.size ≤ 1048576
  · have hd : decide (s.size ≤ 1048576) = true := by simpa using h
    rw [hd]
    go_enter Try.func5, Try.ntmps5
    go_wp2
    go_ret
    exact ⟨rfl, rfl⟩
  · have hd : decide (s.size ≤ 1048576) = false := by simpa using h
    rw [hd]
    go_enter Try.func5, Try.ntmps5
    go_wp2
    go_ret
    exact ⟨rfl, rfl⟩
end Go.Proofs.Qxb6616523a
