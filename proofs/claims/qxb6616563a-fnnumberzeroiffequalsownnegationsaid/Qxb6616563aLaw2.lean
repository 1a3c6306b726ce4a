/-
  The walk of FnNumberZeroIffEqualsOwnNegation.
-/
import Derived.Test.Qxb6616563aLaw1
import Derived.Test.Qxb6616563aCmp
import Derived.Test.Qxb6616563aNeg
import Derived.OwnWalk
namespace Go.Proofs.Qxb6616563a
open Go.RowKit

theorem zz31_any (a : Option Addr) (n cap : Nat) (w : World) (hn : n ≤ maxLen) :
    Calls Try.prog 31 #[.slice a n cap] w fun e w' => e = .returned (.bool (decide (n ≤ 1048576))) ∧ w = w' := by
  unfold maxLen at hn
  by_cases h : n ≤ 1048576
  · have hd : decide (n ≤ 1048576) = true := by simpa using h
    rw [hd]
    go_enter Try.func31, Try.ntmps31
    go_wp2
    go_ret
    exact ⟨rfl, rfl⟩
  · have hd : decide (n ≤ 1048576) = false := by simpa using h
    rw [hd]
    go_enter Try.func31, Try.ntmps31
    go_wp2
    go_ret
    exact ⟨rfl, rfl⟩

set_option maxHeartbeats 1000000 in
theorem law2_big (a : Option Addr) (n cap : Nat) (w : World) (hn : n ≤ maxLen) (hB : ¬ n ≤ 1048576) :
    Calls Try.prog 6 #[.slice a n cap] w fun e w' => e = .returned (.bool true) ∧ Below w.heap.size w w' := by
  have hz := fun (W : World) => zz31_any a n cap W hn
  have hd : decide (n ≤ 1048576) = false := by simpa using hB
  simp only [hd] at hz
  go_enter Try.func6, Try.ntmps6
  go_wp2_with fail
  refine (hz _).mono ?_
  rintro e w' ⟨rfl, rfl⟩
  go_wp2_with fail
  go_ret
  exact ⟨rfl, Below.refl _ _⟩

set_option maxHeartbeats 1000000 in
theorem law2_empty (a : Option Addr) (cap : Nat) (w : World) :
    Calls Try.prog 6 #[.slice a 0 cap] w fun e w' => e = .returned (.bool true) ∧ Below w.heap.size w w' := by
  have hz := fun (W : World) => zz31_any a 0 cap W (by unfold maxLen; omega)
  have hd : decide (0 ≤ 1048576) = true := by decide
  simp only [hd] at hz
  go_enter Try.func6, Try.ntmps6
  go_wp2_with fail
  refine (hz _).mono ?_
  rintro e w' ⟨rfl, rfl⟩
  go_wp2_with fail
  refine (dec_empty _ _ _).mono ?_
  rintro e w' ⟨rfl, rfl⟩
  go_wp2_with fail
  go_ret
  exact ⟨rfl, Below.refl _ _⟩

set_option maxHeartbeats 1000000 in
theorem law2_no (b off n cap : Nat) (f : Nat → Nat) (w : World) (h0 : 0 < n) (hn : n ≤ 1048576) (hc : Bts w b off n f) (hno : decB f n (sgn f n) = false ∨ f 0 = 45) :
    Calls Try.prog 6 #[.slice (some ⟨b, off, none⟩) n cap] w fun e w' => e = .returned (.bool true) ∧ Below w.heap.size w w' := by
  have hz := fun (W : World) => zz31_any (some ⟨b, off, none⟩) n cap W (by unfold maxLen; omega)
  have hd : decide (n ≤ 1048576) = true := by simpa using hn
  simp only [hd] at hz
  have hD := dec_any b off n cap f w h0 hn hc
  have hc0 := hc 0 h0
  simp only [Nat.add_zero] at hc0
  clear hc
  cases hdec : decB f n (sgn f n) with
  | false =>
    rw [hdec] at hD
    clear hdec hno hc0
    go_enter Try.func6, Try.ntmps6
    go_wp2_with fail
    refine (hz _).mono ?_
    rintro e w' ⟨rfl, rfl⟩
    go_wp2_with fail
    refine hD.mono ?_
    rintro e w' ⟨rfl, rfl⟩
    go_wp2_with fail
    go_ret
    exact ⟨rfl, Below.refl _ _⟩
  | true =>
    have h45 : ((f 0 : Int) == 45) = true := by
      rcases hno with h | h
      · rw [hdec] at h; cases h
      · simp [h]
    rw [hdec] at hD
    clear hdec hno
    go_enter Try.func6, Try.ntmps6
    go_wp2_with fail
    refine (hz _).mono ?_
    rintro e w' ⟨rfl, rfl⟩
    go_wp2_with fail
    refine hD.mono ?_
    rintro e w' ⟨rfl, rfl⟩
    go_wp2_with fail
    go_ret
    exact ⟨rfl, Below.refl _ _⟩

def newsOf (n : Nat) (f : Nat → Nat) : List Value := (List.range n).map fun i => Value.int .u8 (f i : Int)
theorem newsOf_length (n : Nat) (f : Nat → Nat) : (newsOf n f).length = n := by simp [newsOf]
theorem newsOf_get (n : Nat) (f : Nat → Nat) (j : Nat) (hj : j < n) : (newsOf n f)[j]? = some (.int .u8 (f j : Int)) := by simp [newsOf, hj]

theorem newsOf_one (n : Nat) (f : Nat → Nat) : ∀ u ∈ newsOf n f, u.oneCell' = true := by
  intro u hu
  simp only [newsOf, List.mem_map] at hu
  obtain ⟨i, _, rfl⟩ := hu
  rfl
theorem one_cell : ∀ u ∈ [Value.int .u8 45], u.oneCell' = true := by
  intro u hu
  simp at hu
  subst hu
  rfl
theorem one_new (w2 : World) : ∀ j u, [Value.int .u8 45][j]? = some u → (w2.alloc (.cells #[.int .u8 45] 5)).cell? ((⟨w2.heap.size, 0, none⟩ : Addr).add j) = some u := by
  intro j u hj
  match j, hj with
  | 0, hj => simp at hj; subst hj; simp [Addr.add]
theorem app_cells {w2 w3 : World} {o : Obj} {b off n r : Nat} {f : Nat → Nat} (h : Bts w2 b off n f) (hb : b < r) (hr : r ≤ w2.heap.size) (hg : (w2.alloc o).grownBy w3 (some r)) : ∀ j u, (newsOf n f)[j]? = some u → w3.cell? ((⟨b, off, none⟩ : Addr).add j) = some u := by
  intro j u hj
  have hjn : j < n := by
    rcases Nat.lt_or_ge j n with h | h
    · exact h
    · rw [List.getElem?_eq_none (by rw [newsOf_length]; exact h)] at hj; cases hj
  rw [newsOf_get n f j hjn] at hj
  have hbel : Below r w2 w3 := ((Below.refl _ w2).alloc hr o).grown hg (by simp; omega) (fun k hk => by cases hk; exact Nat.le_refl _)
  have hp : (⟨b, off, none⟩ : Addr).add j = ⟨b, off + j, none⟩ := by simp [Addr.add]
  rw [hp, hbel.cell (p := ⟨b, off + j, none⟩) hb, h j hjn]
  exact hj

/-- What 'read' leaves where it accepts: the three cells of x, and nothing else. -/
def ReadSet (f : Nat → Nat) (n X : Nat) (w : World) (e : Ending) (w' : World) : Prop :=
  e = .returned (.bool true) ∧ ∃ N WL FL, ScanOk f n (sgn f n) n N WL FL ∧ w'.heap.size = w.heap.size ∧ (∀ B, B ≤ X → Below B w w') ∧ NumAt w' X N WL FL ∧ (∀ Y M WM FM, Y ≠ X → NumAt w Y M WM FM → NumAt w' Y M WM FM) ∧ (∀ b off m h, b ≠ X → Bts w b off m h → Bts w' b off m h)

theorem below_drewN' {B : Nat} {a w : World} (h : Below B a w) (q : Nat) : Below B a (w.drewN q) := ⟨h.os, h.tape, h.output, h.size, h.block⟩

theorem num_other {w : World} {X Y : Nat} {v0 v1 v2 : Value} {M : Bool} {WM FM : Nat} (hne : Y ≠ X) (h : NumAt w Y M WM FM) : NumAt (((w.setCell ⟨X, 0, none⟩ v0).setCell ⟨X, 1, none⟩ v1).setCell ⟨X, 2, none⟩ v2) Y M WM FM := by
  obtain ⟨q0, ⟨a1, c1, q1⟩, ⟨a2, c2, q2⟩, f0, f1, f2⟩ := h
  have hc : ∀ o, (((w.setCell ⟨X, 0, none⟩ v0).setCell ⟨X, 1, none⟩ v1).setCell ⟨X, 2, none⟩ v2).cell? ⟨Y, o, none⟩ = w.cell? ⟨Y, o, none⟩ := fun o => by
    rw [World.cell?_setCell_other _ _ _ _ (by simp), World.cell?_setCell_other _ _ _ _ (by simp), World.cell?_setCell_other _ _ _ _ (by simp)]
  exact ⟨by rw [hc, q0], ⟨a1, c1, by rw [hc, q1]⟩, ⟨a2, c2, by rw [hc, q2]⟩, by simpa using f0, by simpa using f1, by simpa using f2⟩

theorem bts_other {w : World} {X b off m : Nat} {v0 v1 v2 : Value} {h : Nat → Nat} (hne : b ≠ X) (hb : Bts w b off m h) : Bts (((w.setCell ⟨X, 0, none⟩ v0).setCell ⟨X, 1, none⟩ v1).setCell ⟨X, 2, none⟩ v2) b off m h := by
  intro i hi
  rw [World.cell?_setCell_other _ _ _ _ (by simp), World.cell?_setCell_other _ _ _ _ (by simp), World.cell?_setCell_other _ _ _ _ (by simp)]
  exact hb i hi

set_option maxHeartbeats 1000000 in
theorem read_set (b off n cap X : Nat) (f : Nat → Nat) (w : World) (hS : Calls Try.prog 45 #[.slice (some ⟨b, off, none⟩) n cap] w (ScanPost f n (sgn f n) w)) (hX : ∃ N WL FL, NumAt w X N WL FL) (hd : decB f n (sgn f n) = true) :
    Calls Try.prog 38 #[.pointer (some ⟨X, 0, none⟩), .slice (some ⟨b, off, none⟩) n cap] w (ReadSet f n X w) := by
  obtain ⟨N0, WL0, FL0, hN⟩ := hX
  have hN' := hN
  obtain ⟨q0, ⟨a1, c1, q1⟩, ⟨a2, c2, q2⟩, f0, f1, f2⟩ := hN
  have HN : Hid (NumAt w X N0 WL0 FL0) := hN'
  clear hN'
  go_enter Try.func38, Try.ntmps38
  go_wp2_with fail
  refine hS.mono ?_
  rintro e w' ⟨C, N, WL, FL, aw, af, cw, cf, rfl, rfl, hok⟩
  obtain ⟨hC0, hCn⟩ := (read_iff (sgn_le f n).1 hok).2 hd
  clear hS
  subst hCn
  have hb1 : ((C : Int) == 0) = false := by simp; omega
  go_wp2
  go_ret
  refine ⟨rfl, N, WL, FL, hok, by simp, fun B hB => ?_, num_set HN.out N aw af WL cw FL cf, fun Y M WM FM hne h => num_other hne h, fun b off m h hne hb => bts_other hne hb⟩
  exact (((Below.refl B w).setCell (p := ⟨X, 0, none⟩) hB _).setCell (p := ⟨X, 1, none⟩) hB _).setCell (p := ⟨X, 2, none⟩) hB _

theorem sign_pos {f : Nat → Nat} {n : Nat} {N : Bool} {WL FL : Nat} (h : ScanOk f n 0 n N WL FL) (hn : 0 < n) : N = false := by
  have := h.sign (fun hh => by have := h.fails hh; omega)
  simpa using this
theorem sign_neg {f : Nat → Nat} {n : Nat} {N : Bool} {WL FL : Nat} (h : ScanOk f n 1 n N WL FL) (hn : 0 < n) : N = !(decide (WL = 0) && decide (FL = 0)) := by
  have := h.sign (fun hh => by have := h.fails hh; omega)
  rw [this]
  cases WL <;> cases FL <;> rfl

theorem neg_cells {w : World} {B n c : Nat} {f : Nat → Nat} (h : w.ownsRow B 5 1 (.slice (some ⟨B, 0, none⟩) (1 + n) c) (1 + n) ([.int .u8 45] ++ newsOf n f)) : Bts w B 0 (1 + n) (negF f) := by
  intro i hi
  rw [Nat.zero_add, h.cellAt i (by omega)]
  cases i with
  | zero => rfl
  | succ i => simp only [List.cons_append, List.nil_append, List.getElem?_cons_succ, negF]; exact newsOf_get n f i (by omega)

set_option maxHeartbeats 4000000 in
theorem law2_main (b off n cap : Nat) (f : Nat → Nat) (w : World) (h0 : 0 < n) (hn : n ≤ 1048576) (hc : Bts w b off n f) (hdec : decB f n (sgn f n) = true) (h45 : f 0 ≠ 45) :
    Calls Try.prog 6 #[.slice (some ⟨b, off, none⟩) n cap] w fun e w' => e = .returned (.bool true) ∧ Below w.heap.size w w' := by
  have hz := fun (W : World) => zz31_any (some ⟨b, off, none⟩) n cap W (by unfold maxLen; omega)
  have hd : decide (n ≤ 1048576) = true := by simpa using hn
  simp only [hd] at hz
  have hD := dec_any b off n cap f w h0 hn hc
  rw [hdec] at hD
  have hc0 := hc 0 h0
  simp only [Nat.add_zero] at hc0
  have hb45 : ((f 0 : Int) == 45) = false := by rw [beq_eq_false_iff_ne]; omega
  have hs0 : Hid (sgn f n = 0) := by show sgn f n = 0; unfold sgn; rw [if_neg (fun hh => h45 hh.2)]
  have hblk : b < w.heap.size := block_lt_of_cell (hc 0 h0)
  have hcl := clone_any b off n cap f w hn hblk hc
  have HC : Hid (Bts w b off n f) := hc
  have HDEC : Hid (decB f n 0 = true) := by have := hdec; rw [hs0.out] at this; exact this
  clear hc hdec h45
  obtain ⟨i0, hi, hz0, hz1, hz2⟩ := info_parts Try.info5
  go_enter Try.func6, Try.ntmps6
  go_wp2_with fail
  refine (hz _).mono ?_
  rintro e w' ⟨rfl, rfl⟩
  go_wp2_with fail
  refine hD.mono ?_
  rintro e w' ⟨rfl, rfl⟩
  go_wp2_with fail
  refine hcl.mono ?_
  rintro e w1 ⟨g, rfl, hg1, hg2, hb1, hbt⟩
  clear hcl hz hD hc0 hb45
  have HB1 : Hid (Below w.heap.size w w1) := hb1
  have HT1 : Hid (Bts w1 g 0 n f) := hbt
  have hs1 : w.heap.size ≤ w1.heap.size := hb1.size
  have HC1 : Hid (Bts w1 b off n f) := bts_below HC.out hb1 hblk
  clear hb1 hbt
  obtain ⟨w2, hmk, hown, hgrow⟩ := run_make_own (P := Try.prog) (w := w1) w1.heap.size 32 5 i0 (.int .u8 0) 1 Try.underlying32 hi hz0 hz1 .i64 .i64 (n + 1) (by rw [hz2]; omega) (by unfold maxLen; omega) (Nat.le_refl _)
  have HB12 : Hid (Below w1.heap.size w1 w2) := (Below.refl _ w1).grown hgrow (Nat.le_refl _) (fun k h => by cases h)
  have hs2 : w1.heap.size ≤ w2.heap.size := HB12.out.size
  have HO2 : Hid (w2.ownsRow w1.heap.size 5 1 (.slice (some ⟨w1.heap.size, 0, none⟩) 0 (n + 1)) 0 []) := hown
  have HC2 : Hid (Bts w2 b off n f) := bts_below HC1.out HB12.out (by omega)
  clear hown hgrow
  rw [show ((n + 1 : Nat) : Int) = (n : Int) + 1 by omega] at hmk
  have hA1 := one_new w2
  go_wp2_with (first | (at_builtin; refine wpList_append_fits _ rfl (.tmp 29) (.tmp 30) 32 rfl w1.heap.size 5 i0 1 Try.underlying32 hi hz1 w1.heap.size 0 (n + 1) [] rfl (HO2.out.alloc _) ⟨w2.heap.size, 0, none⟩ 1 1 [.int .u8 45] rfl rfl hA1 one_cell (by omega) ?_; intro w3 hown3 hgrow3; have hA2 := app_cells HC2.out (by omega) hs2 hgrow3; simp only [Nat.zero_add, List.nil_append] at hown3) | (at_builtin; refine wpList_append_fits _ rfl (.tmp 32) (.tmp 33) 32 rfl w1.heap.size 5 i0 1 Try.underlying32 hi hz1 w1.heap.size 1 (n + 1) [.int .u8 45] rfl hown3 ⟨b, off, none⟩ n cap (newsOf n f) rfl (by rw [newsOf_length]; omega) hA2 (newsOf_one n f) (by omega) ?_; intro w4 hown4 hgrow4) | fail)
  have HB24 : Hid (Below w1.heap.size w2 w4) := (((Below.refl _ w2).alloc hs2 _).grown hgrow3 (by simp; omega) (fun k hk => by cases hk; exact Nat.le_refl _)).grown hgrow4 (by have := (((Below.refl _ w2).alloc hs2 _).grown hgrow3 (by simp; omega) (fun k hk => by cases hk; exact Nat.le_refl _)).size; omega) (fun k hk => by cases hk; exact Nat.le_refl _)
  have HN4 : Hid (Bts w4 w1.heap.size 0 (1 + n) (negF f)) := neg_cells hown4
  have hs4 : w1.heap.size < w4.heap.size := block_lt_of_cell (HN4.out 0 (by omega))
  clear hA1 hA2 hown3 hown4 hgrow3 hgrow4 hmk hi hz0 hz1 hz2
  have HB14 : Hid (Below w1.heap.size w1 w4) := HB12.out.trans HB24.out
  have HB4 : Hid (Below w.heap.size w w4) := HB1.out.trans (HB14.out.mono hs1)
  have HT4 : Hid (Bts w4 g 0 n f) := bts_below HT1.out HB14.out hg2
  have HC4 : Hid (Bts w4 b off n f) := bts_below HC.out HB4.out hblk
  clear HC HC1 HC2 HB1 HB12 HB24 HT1 HO2 HB14
  refine (new_any _).mono ?_
  rintro e w5 ⟨rfl, hw5⟩
  have HX5 : Hid (NumAt w5 w4.heap.size false 0 0) := by rw [← hw5]; exact num_new w4
  have HB45 : Hid (Below w4.heap.size w4 w5) := by rw [← hw5]; exact (Below.refl _ _).alloc (Nat.le_refl _) _
  have hs5 : w4.heap.size < w5.heap.size := by rw [← hw5]; simp
  clear hw5
  go_wp2_with fail
  refine (new_any _).mono ?_
  rintro e w6 ⟨rfl, hw6⟩
  have HY6 : Hid (NumAt w6 w5.heap.size false 0 0) := by rw [← hw6]; exact num_new w5
  have HB56 : Hid (Below w5.heap.size w5 w6) := by rw [← hw6]; exact (Below.refl _ _).alloc (Nat.le_refl _) _
  have hs6 : w5.heap.size < w6.heap.size := by rw [← hw6]; simp
  clear hw6
  have HX6 : Hid (NumAt w6 w4.heap.size false 0 0) := num_below HX5.out HB56.out hs5
  have HB46 : Hid (Below w4.heap.size w4 w6) := HB45.out.trans (HB56.out.mono (by omega))
  have HB6 : Hid (Below w.heap.size w w6) := HB4.out.trans (HB46.out.mono (by omega))
  have HT6 : Hid (Bts w6 g 0 n f) := bts_below HT4.out HB46.out (by omega)
  have HN6 : Hid (Bts w6 w1.heap.size 0 (1 + n) (negF f)) := bts_below HN4.out HB46.out hs4
  have HC6 : Hid (Bts w6 b off n f) := bts_below HC4.out HB46.out (by omega)
  clear HX5 HB45 HB56 HB46 HT4 HN4 HC4 HB4
  have hr1 := zzread_of (w := w6) (args := #[.pointer (some ⟨w4.heap.size, 0, none⟩), .slice (some ⟨g, 0, none⟩) n n]) rfl ((read_set g 0 n n w4.heap.size f w6 (scan_any g 0 n n f w6 h0 (by omega) (Nat.le_refl _) HT6.out) ⟨_, _, _, HX6.out⟩ (by rw [hs0.out]; exact HDEC.out)).mono (fun e w' h => ⟨true, h.1, h⟩)) ⟨_, rfl⟩ ⟨_, _, _, rfl⟩
  go_wp2_with fail
  refine hr1.mono ?_
  rintro e w7 ⟨rfl, N, WL, FL, hok, hs7, hb7, hx7, ho7, ht7⟩
  clear hr1
  rw [hs0.out] at hok
  have hN1 := sign_pos hok h0
  subst hN1
  have hZ1 : Hid ((decide (WL = 0) && decide (FL = 0)) = allZ f n) := zero_iff (s := 0) (by rw [hs0.out]) hok (by omega) rfl
  have HX7 : Hid (NumAt w7 w4.heap.size false WL FL) := hx7
  have HY7 : Hid (NumAt w7 w5.heap.size false 0 0) := ho7 _ _ _ _ (by omega) HY6.out
  have HB7 : Hid (Below w.heap.size w w7) := HB6.out.trans (hb7 _ (by omega))
  have HN7 : Hid (Bts w7 w1.heap.size 0 (1 + n) (negF f)) := ht7 _ _ _ _ (by omega) HN6.out
  have HC7 : Hid (Bts w7 b off n f) := ht7 _ _ _ _ (by omega) HC6.out
  clear hok hx7 hb7 ho7 ht7 HT6 HX6 HY6 HN6 HC6 HB6
  have hsn : Hid (sgn (negF f) (1 + n) = 1) := by show sgn (negF f) (1 + n) = 1; rw [Nat.add_comm 1 n]; exact sgn_neg f n
  have hr2 := zzread_of (w := w7) (args := #[.pointer (some ⟨w5.heap.size, 0, none⟩), .slice (some ⟨w1.heap.size, 0, none⟩) (1 + n) (n + 1)]) rfl ((read_set w1.heap.size 0 (1 + n) (n + 1) w5.heap.size (negF f) w7 (scan_any w1.heap.size 0 (1 + n) (n + 1) (negF f) w7 (by omega) (by omega) (by omega) HN7.out) ⟨_, _, _, HY7.out⟩ (by rw [hsn.out, Nat.add_comm 1 n, dec_neg]; exact HDEC.out)).mono (fun e w' h => ⟨true, h.1, h⟩)) ⟨_, rfl⟩ ⟨_, _, _, rfl⟩
  go_wp2_with fail
  refine hr2.mono ?_
  rintro e w8 ⟨rfl, N', WL', FL', hok, hs8, hb8, hx8, ho8, ht8⟩
  clear hr2
  rw [hsn.out] at hok
  have hN2 := sign_neg hok (by omega)
  have hZ2 : Hid ((decide (WL' = 0) && decide (FL' = 0)) = allZ f n) := by
    have := zero_iff (s := 1) (by rw [hsn.out]) hok (by omega) rfl
    rw [Nat.add_comm 1 n, allZ_neg] at this
    exact this
  rw [hZ2.out] at hN2
  subst hN2
  have HY8 : Hid (NumAt w8 w5.heap.size (!allZ f n) WL' FL') := hx8
  have HX8 : Hid (NumAt w8 w4.heap.size false WL FL) := ho8 _ _ _ _ (by omega) HX7.out
  have HB8 : Hid (Below w.heap.size w w8) := HB7.out.trans (hb8 _ (by omega))
  have HC8 : Hid (Bts w8 b off n f) := ht8 _ _ _ _ (by omega) HC7.out
  clear hok hx8 hb8 ho8 ht8 HX7 HY7 HN7 HC7 HB7
  have hA := allZ_any b off n cap f w8 hn HC8.out
  have hz1 := zzzero_any w4.heap.size w8 false WL FL HX8.out
  rw [hZ1.out] at hz1
  have hz2 := zzzero_any w5.heap.size w8 (!allZ f n) WL' FL' HY8.out
  rw [hZ2.out] at hz2
  cases hz : allZ f n with
  | true =>
    rw [hz] at hA hz1 hz2
    have e1 : (decide (WL = 0) && decide (FL = 0)) = true := hZ1.out.trans hz
    have e2 : (decide (WL' = 0) && decide (FL' = 0)) = true := hZ2.out.trans hz
    simp only [Bool.and_eq_true, decide_eq_true_eq] at e1 e2
    have hX : NumAt w8 w4.heap.size false 0 0 := by have := HX8.out; rw [e1.1, e1.2] at this; exact this
    have hY : NumAt w8 w5.heap.size false 0 0 := by have := HY8.out; rw [e2.1, e2.2, hz] at this; exact this
    have k1 := zzcmp_of (compare_eq _ _ w8 hX hY)
    have k2 := fun q => zzcmp_of (compare_eq _ _ (w8.drewN q) (num_below hY (below_drewN' (Below.refl (w8.heap.size) w8) q) (by omega)) (num_below hX (below_drewN' (Below.refl (w8.heap.size) w8) q) (by omega)))
    clear e1 e2 hz hX hY
    go_wp2_with fail
    refine hA.mono ?_
    rintro e w' ⟨rfl, rfl⟩
    go_wp2_with fail
    refine hz1.mono ?_
    rintro e w' ⟨rfl, rfl⟩
    go_wp2_with fail
    refine hz2.mono ?_
    rintro e w' ⟨rfl, rfl⟩
    go_wp2_with fail
    refine k1.mono ?_
    rintro e w' ⟨rfl, q, rfl⟩
    go_wp2_with fail
    refine (k2 q).mono ?_
    rintro e w' ⟨rfl, q', rfl⟩
    go_wp2_with fail
    go_ret
    exact ⟨rfl, below_drewN' HB8.out _⟩
  | false =>
    rw [hz] at hA hz1 hz2
    have hX : NumAt w8 w4.heap.size false WL FL := HX8.out
    have hY : NumAt w8 w5.heap.size true WL' FL' := by have := HY8.out; rw [hz] at this; exact this
    have k1 := zzcmp_of (compare_gt _ _ _ _ _ _ w8 hX hY)
    have k2 := fun q => zzcmp_of (compare_lt _ _ _ _ _ _ (w8.drewN q) (num_below hY (below_drewN' (Below.refl (w8.heap.size) w8) q) (by omega)) (num_below hX (below_drewN' (Below.refl (w8.heap.size) w8) q) (by omega)))
    clear hz hX hY
    go_wp2_with fail
    refine hA.mono ?_
    rintro e w' ⟨rfl, rfl⟩
    go_wp2_with fail
    refine hz1.mono ?_
    rintro e w' ⟨rfl, rfl⟩
    go_wp2_with fail
    refine hz2.mono ?_
    rintro e w' ⟨rfl, rfl⟩
    go_wp2_with fail
    refine k1.mono ?_
    rintro e w' ⟨rfl, q, rfl⟩
    go_wp2_with fail
    refine (k2 q).mono ?_
    rintro e w' ⟨rfl, q', rfl⟩
    go_wp2_with fail
    go_ret
    exact ⟨rfl, below_drewN' HB8.out _⟩
end Go.Proofs.Qxb6616563a
