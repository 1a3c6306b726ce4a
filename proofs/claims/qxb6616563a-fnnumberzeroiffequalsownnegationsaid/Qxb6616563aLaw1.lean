/-
  The walk of FnNumberZeroIffAllDigitsZero.
-/
import Derived.Test.Qxb6616563aRead
namespace Go.Proofs.Qxb6616563a
open Go.RowKit

theorem zz27_any (a : Option Addr) (n cap : Nat) (w : World) (hn : n ≤ maxLen) :
    Calls Try.prog 27 #[.slice a n cap] w fun e w' => e = .returned (.bool (decide (n ≤ 1048576))) ∧ w = w' := by
  unfold maxLen at hn
  by_cases h : n ≤ 1048576
  · have hd : decide (n ≤ 1048576) = true := by simpa using h
    rw [hd]
    go_enter Try.func27, Try.ntmps27
    go_wp2
    go_ret
    exact ⟨rfl, rfl⟩
  · have hd : decide (n ≤ 1048576) = false := by simpa using h
    rw [hd]
    go_enter Try.func27, Try.ntmps27
    go_wp2
    go_ret
    exact ⟨rfl, rfl⟩

theorem new_any (w : World) : Calls Try.prog 23 #[] w fun e w' => e = .returned (.pointer (some ⟨w.heap.size, 0, none⟩)) ∧ w.alloc (.cells #[.bool false, .slice none 0 0, .slice none 0 0] 72) = w' := by
  go_enter Try.func23, Try.ntmps23
  go_wp2
  go_ret
  exact ⟨rfl, rfl⟩

theorem num_new (w : World) : NumAt (w.alloc (.cells #[.bool false, .slice none 0 0, .slice none 0 0] 72)) w.heap.size false 0 0 := by
  refine ⟨?_, ⟨none, 0, ?_⟩, ⟨none, 0, ?_⟩, ?_, ?_, ?_⟩ <;> simp

set_option maxHeartbeats 1000000 in
theorem law1_big (a : Option Addr) (n cap : Nat) (w : World) (hn : n ≤ maxLen) (hB : ¬ n ≤ 1048576) :
    Calls Try.prog 5 #[.slice a n cap] w fun e w' => e = .returned (.bool true) ∧ Below w.heap.size w w' := by
  have hz := fun (W : World) => zz27_any a n cap W hn
  have hd : decide (n ≤ 1048576) = false := by simpa using hB
  simp only [hd] at hz
  go_enter Try.func5, Try.ntmps5
  go_wp2_with fail
  refine (hz _).mono ?_
  rintro e w' ⟨rfl, rfl⟩
  go_wp2_with fail
  go_ret
  exact ⟨rfl, Below.refl _ _⟩

set_option maxHeartbeats 2000000 in
theorem law1_nil (w : World) :
    Calls Try.prog 5 #[.slice none 0 0] w fun e w' => e = .returned (.bool true) ∧ Below w.heap.size w w' := by
  have hz := fun (W : World) => zz27_any none 0 0 W (by unfold maxLen; omega)
  have hd : decide (0 ≤ 1048576) = true := by decide
  simp only [hd] at hz
  have hr := fun (X : Nat) (W : World) => zzread_of (args := #[.pointer (some ⟨X, 0, none⟩), .slice none 0 0]) (Q := fun e w' => e = .returned (.bool false) ∧ W = w') rfl ((read_empty none 0 X W).mono (fun e w' h => ⟨false, h.1, h⟩)) ⟨_, rfl⟩ ⟨_, _, _, rfl⟩
  go_enter Try.func5, Try.ntmps5
  go_wp2_with fail
  refine (hz _).mono ?_
  rintro e w' ⟨rfl, rfl⟩
  go_wp2_with fail
  refine (clone_nil _).mono ?_
  rintro e w' ⟨rfl, rfl⟩
  go_wp2_with (first | (go_at_call 24; refine (hr _ _).mono ?_; rintro e w' ⟨rfl, rfl⟩) | (go_at_call 28; refine (dec_empty _ _ _).mono ?_; rintro e w' ⟨rfl, rfl⟩) | go_in)
  go_ret
  exact ⟨rfl, (Below.refl _ _).alloc (Nat.le_refl _) _⟩

set_option maxHeartbeats 2000000 in
theorem law1_empty (x : Addr) (cap : Nat) (w : World) :
    Calls Try.prog 5 #[.slice (some x) 0 cap] w fun e w' => e = .returned (.bool true) ∧ Below w.heap.size w w' := by
  have hz := fun (W : World) => zz27_any (some x) 0 cap W (by unfold maxLen; omega)
  have hd : decide (0 ≤ 1048576) = true := by decide
  simp only [hd] at hz
  have hr := fun (a : Option Addr) (X : Nat) (W : World) => zzread_of (args := #[.pointer (some ⟨X, 0, none⟩), .slice a 0 0]) (Q := fun e w' => e = .returned (.bool false) ∧ W = w') rfl ((read_empty a 0 X W).mono (fun e w' h => ⟨false, h.1, h⟩)) ⟨_, rfl⟩ ⟨_, _, _, rfl⟩
  go_enter Try.func5, Try.ntmps5
  go_wp2_with fail
  refine (hz _).mono ?_
  rintro e w' ⟨rfl, rfl⟩
  go_wp2_with fail
  refine (clone_empty _ _ _).mono ?_
  rintro e w1 ⟨g, rfl, hb⟩
  have HB : Hid (Below w.heap.size w w1) := hb
  clear hb
  go_wp2_with (first | (go_at_call 24; refine (hr _ _ _).mono ?_; rintro e w' ⟨rfl, rfl⟩) | (go_at_call 28; refine (dec_empty _ _ _).mono ?_; rintro e w' ⟨rfl, rfl⟩) | go_in)
  go_ret
  exact ⟨rfl, HB.out.alloc HB.out.size _⟩

set_option maxHeartbeats 2000000 in
theorem law1_main (b off n cap : Nat) (f : Nat → Nat) (w : World) (h0 : 0 < n) (hn : n ≤ 1048576) (hc : Bts w b off n f) :
    Calls Try.prog 5 #[.slice (some ⟨b, off, none⟩) n cap] w fun e w' => e = .returned (.bool true) ∧ Below w.heap.size w w' := by
  have hz := fun (W : World) => zz27_any (some ⟨b, off, none⟩) n cap W (by unfold maxLen; omega)
  have hd : decide (n ≤ 1048576) = true := by simpa using hn
  simp only [hd] at hz
  have hblk : b < w.heap.size := block_lt_of_cell (hc 0 h0)
  have hcl := clone_any b off n cap f w hn hblk hc
  have HC : Hid (Bts w b off n f) := hc
  clear hc
  go_enter Try.func5, Try.ntmps5
  go_wp2_with fail
  refine (hz _).mono ?_
  rintro e w' ⟨rfl, rfl⟩
  go_wp2_with fail
  refine hcl.mono ?_
  rintro e w1 ⟨g, rfl, hg1, hg2, hb1, hbt⟩
  clear hcl
  have HB1 : Hid (Below w.heap.size w w1) := hb1
  have HT1 : Hid (Bts w1 g 0 n f) := hbt
  clear hb1 hbt hz
  go_wp2_with fail
  refine (new_any _).mono ?_
  rintro e w2 ⟨rfl, hw2⟩
  have HN2 : Hid (NumAt w2 w1.heap.size false 0 0) := by rw [← hw2]; exact num_new w1
  have HB2 : Hid (Below w.heap.size w w2) := by rw [← hw2]; exact HB1.out.alloc HB1.out.size _
  have HB12 : Hid (Below w1.heap.size w1 w2) := by rw [← hw2]; exact (Below.refl _ _).alloc (Nat.le_refl _) _
  have hs2 : w1.heap.size < w2.heap.size := by rw [← hw2]; simp
  have hs1 : w.heap.size ≤ w1.heap.size := HB1.out.size
  have HT2 : Hid (Bts w2 g 0 n f) := bts_below HT1.out HB12.out hg2
  have HC2 : Hid (Bts w2 b off n f) := bts_below HC.out HB2.out hblk
  clear hw2 HC HT1
  cases hdec : decB f n (sgn f n) with
  | false =>
    have hr := zzread_of (w := w2) (args := #[.pointer (some ⟨w1.heap.size, 0, none⟩), .slice (some ⟨g, 0, none⟩) n n]) (Q := fun e w' => e = .returned (.bool false) ∧ w2 = w') rfl ((read_no g 0 n n w1.heap.size f w2 h0 hn (Nat.le_refl _) HT2.out hdec).mono (fun e w' h => ⟨false, h.1, h⟩)) ⟨_, rfl⟩ ⟨_, _, _, rfl⟩
    have hD := dec_any b off n cap f w2 h0 hn HC2.out
    rw [hdec] at hD
    clear hdec
    go_wp2_with fail
    refine hr.mono ?_
    rintro e w' ⟨rfl, rfl⟩
    go_wp2_with fail
    refine hD.mono ?_
    rintro e w' ⟨rfl, rfl⟩
    go_wp2_with fail
    go_ret
    exact ⟨rfl, HB2.out⟩
  | true =>
    have hr := zzread_of (w := w2) (args := #[.pointer (some ⟨w1.heap.size, 0, none⟩), .slice (some ⟨g, 0, none⟩) n n]) rfl ((read_yes g 0 n n w1.heap.size f w2 h0 hn (Nat.le_refl _) HT2.out ⟨_, _, _, HN2.out⟩ hdec).mono (fun e w' h => ⟨true, h.1, h⟩)) ⟨_, rfl⟩ ⟨_, _, _, rfl⟩
    go_wp2_with fail
    refine hr.mono ?_
    rintro e w3 ⟨rfl, N, WL, FL, hok, hs3, hb3, hnum⟩
    have HC3 : Hid (Bts w3 b off n f) := bts_below HC2.out (hb3 _ hs1) hblk
    have HB3 : Hid (Below w.heap.size w w3) := HB2.out.trans (hb3 _ hs1)
    have hD := dec_any b off n cap f w3 h0 hn HC3.out
    rw [hdec] at hD
    have hA := allZ_any b off n cap f w3 hn HC3.out
    have hZ := zzzero_any w1.heap.size w3 N WL FL hnum
    rw [zero_iff rfl hok (by omega) rfl] at hZ
    generalize allZ f n = Z at hA hZ
    clear hr hb3 hs3 hnum hok hdec
    go_wp2_with fail
    refine hD.mono ?_
    rintro e w' ⟨rfl, rfl⟩
    go_wp2_with fail
    refine hZ.mono ?_
    rintro e w' ⟨rfl, rfl⟩
    go_wp2_with fail
    refine hA.mono ?_
    rintro e w' ⟨rfl, rfl⟩
    go_wp2_with fail
    go_ret
    exact ⟨ret_bool (by simp), HB3.out⟩
end Go.Proofs.Qxb6616563a
