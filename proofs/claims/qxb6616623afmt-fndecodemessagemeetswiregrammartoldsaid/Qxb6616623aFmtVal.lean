/-
  The walks of (*decoder).value and (*decoder).instance.
-/
import Derived.Test.Qxb6616623aFmtDec
namespace Go.Proofs.Qxb6616623aFmt
open Go.RowKit Go.Lib Go.Shelf

/-- A value as it lies in memory: nil, or bytes s .. s + k of the buffer. -/
def ValIs (g o : Nat) (v : Option (Nat × Nat)) (x : Value) : Prop :=
  match v with
  | none => x = .slice none 0 0
  | some (s, k) => ∃ a, x = .slice (some a) k k ∧ (0 < k → a = ⟨g, o + s, none⟩)

def stVal (L : List UInt8) : Option Nat → Option (Nat × Nat) × Option Nat
  | none => (none, none)
  | some p => match rVal L p with
    | none => (none, none)
    | some (v, q) => (v, some q)

def ValPost (w : World) (D B g o cap : Nat) (L : List UInt8) (r : Option (Nat × Nat) × Option Nat) (e : Ending) (w' : World) : Prop :=
  ∃ x, e = .returned x ∧ ValIs g o r.1 x ∧ w.grownBy w' (some D) ∧ DecS w' D B g o cap L r.2

set_option maxHeartbeats 400000 in
theorem val_failed (D B g o cap : Nat) (L : List UInt8) (v : Nat) (w : World) (hu : Calls Tryf.prog 20 #[.pointer (some ⟨D, 0, none⟩)] w fun e w' => e = .returned (.int .u64 (v : Int)) ∧ w.grownBy w' (some D) ∧ DecS w' D B g o cap L none) :
    Calls Tryf.prog 21 #[.pointer (some ⟨D, 0, none⟩)] w (ValPost w D B g o cap L (none, none)) := by
  go_enter Tryf.func21, Tryf.ntmps21
  go_wp2_with fail
  refine hu.mono ?_
  rintro e w1 ⟨rfl, hg, hd⟩
  have HG : Hid (w.grownBy w1 (some D)) := hg
  have HD : Hid (DecS w1 D B g o cap L none) := hd
  obtain ⟨f0, f1, ⟨a, n, c, h0⟩, y, t, h1, hy, hB⟩ := hd
  clear hg hu hy
  go_wp2_with fail
  go_ret
  exact ⟨_, rfl, rfl, HG.out, HD.out⟩

set_option maxHeartbeats 400000 in
theorem val_zero (D B g o cap q : Nat) (L : List UInt8) (w : World) (hu : Calls Tryf.prog 20 #[.pointer (some ⟨D, 0, none⟩)] w fun e w' => e = .returned (.int .u64 ((0 : Nat) : Int)) ∧ w.grownBy w' (some D) ∧ DecS w' D B g o cap L (some q)) :
    Calls Tryf.prog 21 #[.pointer (some ⟨D, 0, none⟩)] w (ValPost w D B g o cap L (none, some q)) := by
  go_enter Tryf.func21, Tryf.ntmps21
  go_wp2_with fail
  refine hu.mono ?_
  rintro e w1 ⟨rfl, hg, hd⟩
  have HG : Hid (w.grownBy w1 (some D)) := hg
  have HD : Hid (DecS w1 D B g o cap L (some q)) := hd
  obtain ⟨f0, f1, hp, h1, x, h0, hx⟩ := hd
  clear hg hu hx
  go_wp2_with fail
  go_ret
  exact ⟨_, rfl, rfl, HG.out, HD.out⟩

set_option maxHeartbeats 400000 in
theorem val_short (D B g o cap n q : Nat) (L : List UInt8) (w : World) (hBw : B ≤ w.heap.size) (hn : 0 < n) (hn64 : n < 18446744073709551616) (hL : L.length ≤ 1048576) (hs : L.length - q < n - 1) (hu : Calls Tryf.prog 20 #[.pointer (some ⟨D, 0, none⟩)] w fun e w' => e = .returned (.int .u64 (n : Int)) ∧ w.grownBy w' (some D) ∧ DecS w' D B g o cap L (some q)) :
    Calls Tryf.prog 21 #[.pointer (some ⟨D, 0, none⟩)] w (ValPost w D B g o cap L (none, none)) := by
  go_enter Tryf.func21, Tryf.ntmps21
  go_wp2_with fail
  refine hu.mono ?_
  rintro e w1 ⟨rfl, hg, hd⟩
  have HG : Hid (w.grownBy w1 (some D)) := hg
  have hsz := hg.size
  have hf := fail_some D B g o cap q L ⟨#[97, 32, 118, 97, 108, 117, 101, 32, 99, 117, 116, 32, 115, 104, 111, 114, 116]⟩ w1 hd (by omega)
  obtain ⟨f0, f1, hp, h1, x, h0, hx⟩ := hd
  clear hg hu hx
  have hb : ((n : Int) == 0) = false := by simp; omega
  have hN : L.length - q ≤ 1048576 := by omega
  generalize L.length - q = N at *
  go_wp2_with fail
  refine hf.mono ?_
  rintro e w2 ⟨rfl, hg2, hd2⟩
  have HG2 : Hid (w1.grownBy w2 (some D)) := hg2
  have HD2 : Hid (DecS w2 D B g o cap L none) := hd2
  clear hg2 hd2 hf
  go_wp2_with fail
  go_ret
  exact ⟨_, rfl, rfl, gb_trans HG.out HG2.out, HD2.out⟩

set_option maxHeartbeats 1000000 in
theorem val_ok (D B g o cap n q : Nat) (L : List UInt8) (w : World) (hcap : L.length ≤ cap) (hn : 0 < n) (hL : L.length ≤ 1048576) (hs : ¬ L.length - q < n - 1) (hu : Calls Tryf.prog 20 #[.pointer (some ⟨D, 0, none⟩)] w fun e w' => e = .returned (.int .u64 (n : Int)) ∧ w.grownBy w' (some D) ∧ DecS w' D B g o cap L (some q)) :
    Calls Tryf.prog 21 #[.pointer (some ⟨D, 0, none⟩)] w (ValPost w D B g o cap L (some (q, n - 1), some (q + (n - 1)))) := by
  obtain ⟨m, rfl⟩ : ∃ m, n = m + 1 := ⟨n - 1, by omega⟩
  rw [Nat.add_sub_cancel] at hs ⊢
  go_enter Tryf.func21, Tryf.ntmps21
  go_wp2_with fail
  refine hu.mono ?_
  rintro e w1 ⟨rfl, hg, hd⟩
  have HG : Hid (w.grownBy w1 (some D)) := hg
  obtain ⟨f0, f1, hp, h1, x, h0, hx⟩ := hd
  have HX : Hid (q < L.length → x = ⟨g, o + q, none⟩) := hx
  clear hg hu hx
  have hb : ((m + 1 : Int) == 0) = false := by simp; omega
  generalize hN : L.length - q = N at *
  generalize hC : cap - q = C at *
  have HN : Hid (L.length - q = N) := hN
  have HC : Hid (cap - q = C) := hC
  have hNb : N ≤ 1048576 := by omega
  have hNC : N ≤ C := by omega
  have hmN : m ≤ N := by omega
  clear hN hC hs
  have ec : ((m + 1 : Nat) : Int) = (m : Int) + 1 := by omega
  rw [ec]
  clear ec
  go_wp2_with fail
  all_goals
    go_ret
    have e1 := HN.out
    have e2 := HC.out
    refine ⟨_, rfl, ⟨x, rfl, fun h => HX.out (by omega)⟩, gb_trans HG.out (gb_set _ D 0 _), dec_step f0 f1 h1 h0 (by omega) _ _ _ (by omega) (by omega) (fun hlt => ?_)⟩
    first | (exfalso; omega) | (rw [HX.out (by omega)]; simp [Addr.add, Nat.add_assoc])

theorem val_any (D B g o cap : Nat) (L : List UInt8) (st : Option Nat) (w : World) (hD : DecS w D B g o cap L st) (hB : B ≤ w.heap.size) (hcap : L.length ≤ cap) (hL : L.length ≤ 1048576) (hb : BufAt w g o L) :
    Calls Tryf.prog 21 #[.pointer (some ⟨D, 0, none⟩)] w (ValPost w D B g o cap L (stVal L st)) := by
  have hu := uv_any D B g o cap L st w hD hB hcap hb
  cases st with
  | none => exact val_failed D B g o cap L 0 w hu
  | some p =>
    cases hr : rVar L p with
    | none =>
      have e1 : stVar L (some p) = (0, none) := by simp [stVar, hr]
      have e2 : stVal L (some p) = (none, none) := by simp [stVal, rVal, hr]
      rw [e1] at hu
      rw [e2]
      exact val_failed D B g o cap L 0 w hu
    | some y =>
      obtain ⟨n, q⟩ := y
      have e1 : stVar L (some p) = (n, some q) := by simp [stVar, hr]
      rw [e1] at hu
      have h64 := (rVar_some hr).2.2.1
      by_cases h0 : n = 0
      · subst h0
        have e2 : stVal L (some p) = (none, some q) := by simp [stVal, rVal, hr]
        rw [e2]
        exact val_zero D B g o cap q L w hu
      · by_cases hs : L.length - q < n - 1
        · have e2 : stVal L (some p) = (none, none) := by simp [stVal, rVal, hr, h0, hs]
          rw [e2]
          exact val_short D B g o cap n q L w hB (by omega) h64 hL hs hu
        · have e2 : stVal L (some p) = (some (q, n - 1), some (q + (n - 1))) := by simp [stVal, rVal, hr, h0, hs]
          rw [e2]
          exact val_ok D B g o cap n q L w hcap (by omega) hL hs hu
end Go.Proofs.Qxb6616623aFmt
