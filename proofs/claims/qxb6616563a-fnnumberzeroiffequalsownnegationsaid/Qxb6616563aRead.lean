/-
  The walks of (*number).read, ZZread, (*number).zero, ZZzero.
-/
import Derived.Test.Qxb6616563aScan
import Derived.Test.Qxb6616563aClone
namespace Go.Proofs.Qxb6616563a
open Go.RowKit

/-- A number lies in block X: its sign, its two parts (of these the lengths alone matter). -/
def NumAt (w : World) (X : Nat) (N : Bool) (WL FL : Nat) : Prop :=
  w.cell? ⟨X, 0, none⟩ = some (.bool N) ∧ (∃ a c, w.cell? ⟨X, 1, none⟩ = some (.slice a WL c)) ∧ (∃ a c, w.cell? ⟨X, 2, none⟩ = some (.slice a FL c)) ∧
  w.frozen? ⟨X, 0, none⟩ = false ∧ w.frozen? ⟨X, 1, none⟩ = false ∧ w.frozen? ⟨X, 2, none⟩ = false

theorem num_set {w : World} {X : Nat} {N0 : Bool} {WL0 FL0 : Nat} (h : NumAt w X N0 WL0 FL0) (N : Bool) (aw af : Option Addr) (WL cw FL cf : Nat) :
    NumAt (((w.setCell ⟨X, 0, none⟩ (.bool N)).setCell ⟨X, 1, none⟩ (.slice aw WL cw)).setCell ⟨X, 2, none⟩ (.slice af FL cf)) X N WL FL := by
  obtain ⟨q0, ⟨a1, c1, q1⟩, ⟨a2, c2, q2⟩, f0, f1, f2⟩ := h
  have n01 : (⟨X, 0, none⟩ : Addr) ≠ ⟨X, 1, none⟩ := by simp
  have n02 : (⟨X, 0, none⟩ : Addr) ≠ ⟨X, 2, none⟩ := by simp
  have n12 : (⟨X, 1, none⟩ : Addr) ≠ ⟨X, 2, none⟩ := by simp
  refine ⟨?_, ⟨aw, cw, ?_⟩, ⟨af, cf, ?_⟩, by simpa using f0, by simpa using f1, by simpa using f2⟩
  · rw [World.cell?_setCell_other _ _ _ _ n02.symm, World.cell?_setCell_other _ _ _ _ n01.symm]
    exact World.cell?_setCell_same _ _ _ q0
  · rw [World.cell?_setCell_other _ _ _ _ n12.symm]
    refine World.cell?_setCell_same _ _ _ (u := .slice a1 WL0 c1) ?_
    rw [World.cell?_setCell_other _ _ _ _ n01]
    exact q1
  · refine World.cell?_setCell_same _ _ _ (u := .slice a2 FL0 c2) ?_
    rw [World.cell?_setCell_other _ _ _ _ n12, World.cell?_setCell_other _ _ _ _ n02]
    exact q2

theorem num_below {w w' : World} {X B : Nat} {N : Bool} {WL FL : Nat} (h : NumAt w X N WL FL) (hb : Below B w w') (hX : X < B) : NumAt w' X N WL FL := by
  obtain ⟨q0, ⟨a1, c1, q1⟩, ⟨a2, c2, q2⟩, f0, f1, f2⟩ := h
  have hc : ∀ o, w'.cell? ⟨X, o, none⟩ = w.cell? ⟨X, o, none⟩ := fun o => hb.cell (p := ⟨X, o, none⟩) hX
  have hf : ∀ o, w'.frozen? ⟨X, o, none⟩ = w.frozen? ⟨X, o, none⟩ := fun o => hb.frozen (p := ⟨X, o, none⟩) hX
  exact ⟨by rw [hc, q0], ⟨a1, c1, by rw [hc, q1]⟩, ⟨a2, c2, by rw [hc, q2]⟩, by rw [hf, f0], by rw [hf, f1], by rw [hf, f2]⟩

theorem bts_below {w w' : World} {b off n B : Nat} {f : Nat → Nat} (h : Bts w b off n f) (hb : Below B w w') (hX : b < B) : Bts w' b off n f :=
  fun i hi => (hb.cell (p := ⟨b, off + i, none⟩) hX).trans (h i hi)

set_option maxHeartbeats 1000000 in
theorem read_yes (b off n cap X : Nat) (f : Nat → Nat) (w : World) (h0 : 0 < n) (hn : n ≤ 1048576) (hcap : n ≤ cap) (hc : Bts w b off n f) (hX : ∃ N WL FL, NumAt w X N WL FL) (hd : decB f n (sgn f n) = true) :
    Calls Try.prog 38 #[.pointer (some ⟨X, 0, none⟩), .slice (some ⟨b, off, none⟩) n cap] w fun e w' => e = .returned (.bool true) ∧ ∃ N WL FL, ScanOk f n (sgn f n) n N WL FL ∧ w'.heap.size = w.heap.size ∧ (∀ B, B ≤ X → Below B w w') ∧ NumAt w' X N WL FL := by
  have hS := scan_any b off n cap f w h0 (by omega) hcap hc
  obtain ⟨N0, WL0, FL0, hN⟩ := hX
  have hN' := hN
  obtain ⟨q0, ⟨a1, c1, q1⟩, ⟨a2, c2, q2⟩, f0, f1, f2⟩ := hN
  have HN : Hid (NumAt w X N0 WL0 FL0) := hN'
  clear hc hN'
  go_enter Try.func38, Try.ntmps38
  go_wp2_with fail
  refine hS.mono ?_
  rintro e w' ⟨C, N, WL, FL, aw, af, cw, cf, rfl, rfl, hok⟩
  obtain ⟨hC0, hCn⟩ := (read_iff (sgn_le f n).1 hok).2 hd
  clear hS
  subst hCn
  have hb1 : ((C : Int) == 0) = false := by simp; omega
  go_wp2
  go_ret
  refine ⟨rfl, N, WL, FL, hok, by simp, fun B hB => ?_, num_set HN.out N aw af WL cw FL cf⟩
  exact (((Below.refl B w).setCell (p := ⟨X, 0, none⟩) hB _).setCell (p := ⟨X, 1, none⟩) hB _).setCell (p := ⟨X, 2, none⟩) hB _

set_option maxHeartbeats 1000000 in
theorem read_no (b off n cap X : Nat) (f : Nat → Nat) (w : World) (h0 : 0 < n) (hn : n ≤ 1048576) (hcap : n ≤ cap) (hc : Bts w b off n f) (hd : decB f n (sgn f n) = false) :
    Calls Try.prog 38 #[.pointer (some ⟨X, 0, none⟩), .slice (some ⟨b, off, none⟩) n cap] w fun e w' => e = .returned (.bool false) ∧ w = w' := by
  have hS := scan_any b off n cap f w h0 (by omega) hcap hc
  clear hc
  go_enter Try.func38, Try.ntmps38
  go_wp2_with fail
  refine hS.mono ?_
  rintro e w' ⟨C, N, WL, FL, aw, af, cw, cf, rfl, rfl, hok⟩
  have hno : ¬ (C ≠ 0 ∧ C = n) := fun hh => by have := (read_iff (sgn_le f n).1 hok).1 hh; rw [hd] at this; cases this
  clear hS
  by_cases hC : C = 0
  · have hb1 : ((C : Int) == 0) = true := by simp; omega
    clear hno
    go_wp2
    go_ret
    exact ⟨rfl, rfl⟩
  · have hb1 : ((C : Int) == 0) = false := by simp; omega
    have hb2 : ((C : Int) != (n : Int)) = true := by simp; omega
    clear hno
    go_wp2
    go_ret
    exact ⟨rfl, rfl⟩

theorem scan_empty (a : Option Addr) (cap : Nat) (w : World) :
    Calls Try.prog 45 #[.slice a 0 cap] w fun e w' => e = .returned (.tuple #[.int .i64 0, .bool false, .slice none 0 0, .slice none 0 0]) ∧ w = w' := by
  go_enter Try.func45, Try.ntmps45
  go_wp2
  refine wp_loop_rounds 1 ?_
  rw [rounds_succ]
  go_wp2
  refine wp_loop_rounds 1 ?_
  rw [rounds_succ]
  go_wp2
  refine bodyPost_ret (results_tmp4 rfl _ _ _) rfl ?_
  exact ⟨rfl, rfl⟩

set_option maxHeartbeats 1000000 in
theorem read_empty (a : Option Addr) (cap X : Nat) (w : World) :
    Calls Try.prog 38 #[.pointer (some ⟨X, 0, none⟩), .slice a 0 cap] w fun e w' => e = .returned (.bool false) ∧ w = w' := by
  go_enter Try.func38, Try.ntmps38
  go_wp2_with fail
  refine (scan_empty _ _ _).mono ?_
  rintro e w' ⟨rfl, rfl⟩
  go_wp2
  go_ret
  exact ⟨rfl, rfl⟩

set_option maxHeartbeats 1000000 in
theorem zero_any (X : Nat) (w : World) (N : Bool) (WL FL : Nat) (h : NumAt w X N WL FL) :
    Calls Try.prog 41 #[.pointer (some ⟨X, 0, none⟩)] w fun e w' => e = .returned (.bool (decide (WL = 0) && decide (FL = 0))) ∧ w = w' := by
  obtain ⟨_, ⟨a1, c1, q1⟩, ⟨a2, c2, q2⟩, _⟩ := h
  by_cases h1 : WL = 0
  · have hb1 : ((WL : Int) == 0) = true := by simp; omega
    have e1 : decide (WL = 0) = true := by simpa using h1
    rw [e1]
    clear h1
    by_cases h2 : FL = 0
    · have hb2 : ((FL : Int) == 0) = true := by simp; omega
      have e2 : decide (FL = 0) = true := by simpa using h2
      rw [e2]
      clear h2
      go_enter Try.func41, Try.ntmps41
      go_wp2
      go_ret
      exact ⟨rfl, rfl⟩
    · have hb2 : ((FL : Int) == 0) = false := by simp; omega
      have e2 : decide (FL = 0) = false := by simpa using h2
      rw [e2]
      go_enter Try.func41, Try.ntmps41
      go_wp2
      go_ret
      exact ⟨rfl, rfl⟩
  · have hb1 : ((WL : Int) == 0) = false := by simp; omega
    have e1 : decide (WL = 0) = false := by simpa using h1
    rw [e1]
    go_enter Try.func41, Try.ntmps41
    go_wp2
    go_ret
    exact ⟨rfl, rfl⟩

set_option maxHeartbeats 1000000 in
theorem zzzero_any (X : Nat) (w : World) (N : Bool) (WL FL : Nat) (h : NumAt w X N WL FL) :
    Calls Try.prog 29 #[.pointer (some ⟨X, 0, none⟩)] w fun e w' => e = .returned (.bool (decide (WL = 0) && decide (FL = 0))) ∧ w = w' := by
  have hz := zero_any X w N WL FL h
  generalize (decide (WL = 0) && decide (FL = 0)) = Z at hz
  clear h
  go_enter Try.func29, Try.ntmps29
  go_wp2_with fail
  refine hz.mono ?_
  rintro e w' ⟨rfl, rfl⟩
  go_wp2
  go_ret
  exact ⟨rfl, rfl⟩

set_option maxHeartbeats 1000000 in
theorem zzread_of {args : Array Value} {v0 v1 : Value} (ha : args = #[v0, v1]) {w : World} {Q : Ending → World → Prop} (h : Calls Try.prog 38 args w fun e w' => ∃ B, e = .returned (.bool B) ∧ Q e w') (h0 : ∃ a, v0 = .pointer a) (h1 : ∃ a n c, v1 = .slice a n c) :
    Calls Try.prog 24 args w Q := by
  obtain ⟨p, rfl⟩ := h0
  obtain ⟨a, n, c, rfl⟩ := h1
  subst ha
  go_enter Try.func24, Try.ntmps24
  go_wp2_with fail
  refine h.mono ?_
  rintro e w' ⟨B, rfl, hQ⟩
  have HQ : Hid (Q (.returned (.bool B)) w') := hQ
  clear hQ h
  go_wp2
  exact HQ.out
end Go.Proofs.Qxb6616563a
