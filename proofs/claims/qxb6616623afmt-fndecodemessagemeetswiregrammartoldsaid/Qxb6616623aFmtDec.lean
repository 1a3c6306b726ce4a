/-
  The walks of the decoder's methods: fail, uvarint, value, instance.
-/
import Derived.Test.Qxb6616623aFmtRows
import Derived.Test.Qxb6616623aFmtShelf
import Derived.Test.Qxb6616623aFmtSpec
import Derived.WalkKit
import Derived.Below
import Derived.Stop.IfaceNil
namespace Go.Proofs.Qxb6616623aFmt
open Go.RowKit Go.Lib Go.Shelf

/-- The bytes L lie in block g from o on. -/
def BufAt (w : World) (g o : Nat) (L : List UInt8) : Prop := ∀ j (hj : j < L.length), w.cell? ⟨g, o + j, none⟩ = some (.int .u8 (L[j]).toNat)

/-- The decoder in block D: at place p of the bytes, or failed (its error's text lies in a block from B on). -/
def DecS (w : World) (D B g o cap : Nat) (L : List UInt8) (st : Option Nat) : Prop :=
  w.frozen? ⟨D, 0, none⟩ = false ∧ w.frozen? ⟨D, 1, none⟩ = false ∧
  match st with
  | some p => p ≤ L.length ∧ w.cell? ⟨D, 1, none⟩ = some .nilIface ∧ ∃ x, w.cell? ⟨D, 0, none⟩ = some (.slice (some x) (L.length - p) (cap - p)) ∧ (p < L.length → x = ⟨g, o + p, none⟩)
  | none => (∃ a n c, w.cell? ⟨D, 0, none⟩ = some (.slice a n c)) ∧ ∃ y s, w.cell? ⟨D, 1, none⟩ = some (.iface 70 (.pointer (some ⟨y, 0, none⟩))) ∧ w.cell? ⟨y, 0, none⟩ = some (.string s) ∧ B ≤ y

theorem gb_refl (w : World) (r : Option Nat) : w.grownBy w r := ⟨rfl, rfl, rfl, Nat.le_refl _, fun _ _ _ => rfl⟩
theorem gb_set (w : World) (D j : Nat) (v : Value) : w.grownBy (w.setCell ⟨D, j, none⟩ v) (some D) :=
  ⟨rfl, rfl, rfl, by simp, fun k _ hne => Below.heap_setCell w ⟨D, j, none⟩ v k (fun h => hne (by rw [h]))⟩
theorem gb_alloc (w : World) (o : Obj) (r : Option Nat) : w.grownBy (w.alloc o) r := ⟨rfl, rfl, rfl, by simp, fun k hk _ => Below.heap_alloc w o k hk⟩
theorem gb_trans {a b c : World} {r : Option Nat} (h1 : a.grownBy b r) (h2 : b.grownBy c r) : a.grownBy c r :=
  ⟨h2.os.trans h1.os, h2.tape.trans h1.tape, h2.output.trans h1.output, Nat.le_trans h1.size h2.size, fun k hk hne => (h2.block k (Nat.lt_of_lt_of_le hk h1.size) hne).trans (h1.block k hk hne)⟩
theorem gb_cell {w w' : World} {r k j : Nat} (h : w.grownBy w' (some r)) (hk : k < w.heap.size) (hne : k ≠ r) : w'.cell? ⟨k, j, none⟩ = w.cell? ⟨k, j, none⟩ :=
  World.cell?_of_block (h.block k hk (fun hh => hne (Option.some.inj hh)))
theorem gb_frozen {w w' : World} {r k j : Nat} (h : w.grownBy w' (some r)) (hk : k < w.heap.size) (hne : k ≠ r) : w'.frozen? ⟨k, j, none⟩ = w.frozen? ⟨k, j, none⟩ :=
  World.frozen?_of_block (h.block k hk (fun hh => hne (Option.some.inj hh)))
theorem gb_buf {w w' : World} {r g o : Nat} {L : List UInt8} (h : w.grownBy w' (some r)) (hne : g ≠ r) (hb : BufAt w g o L) : BufAt w' g o L :=
  fun j hj => (gb_cell h (block_lt_of_cell (hb j hj)) hne).trans (hb j hj)

theorem cell_alloc (w : World) (o : Obj) (k j : Nat) (h : k < w.heap.size) : (w.alloc o).cell? ⟨k, j, none⟩ = w.cell? ⟨k, j, none⟩ := World.cell?_of_block (Below.heap_alloc w o k h)
theorem frozen_alloc (w : World) (o : Obj) (k j : Nat) (h : k < w.heap.size) : (w.alloc o).frozen? ⟨k, j, none⟩ = w.frozen? ⟨k, j, none⟩ := World.frozen?_of_block (Below.heap_alloc w o k h)
theorem cell_new0 (w : World) (v : Value) (t n : Nat) (h : w.heap.size = n) : (w.alloc (.cells #[v] t)).cell? ⟨n, 0, none⟩ = some v := by subst h; simp

set_option maxHeartbeats 400000 in
theorem fail_some (D B g o cap p : Nat) (L : List UInt8) (s : ByteArray) (w : World) (hD : DecS w D B g o cap L (some p)) (hB : B ≤ w.heap.size) :
    Calls Tryf.prog 22 #[.pointer (some ⟨D, 0, none⟩), .string s] w fun e w' => e = .returned (.tuple #[]) ∧ w.grownBy w' (some D) ∧ DecS w' D B g o cap L none := by
  obtain ⟨f0, f1, hp, h1, x, h0, hx⟩ := hD
  have hlt : D < w.heap.size := block_lt_of_cell h0
  go_enter Tryf.func22, Tryf.ntmps22
  go_wp2
  go_end0
  refine ⟨rfl, gb_trans (gb_set w D 1 _) (gb_alloc _ _ _), ?_, ?_, ⟨some x, L.length - p, cap - p, ?_⟩, w.heap.size, s, ?_, cell_new0 _ _ _ _ (by simp), hB⟩
  · rw [frozen_alloc _ _ _ _ (by simpa using hlt), World.frozen?_setCell]
    exact f0
  · rw [frozen_alloc _ _ _ _ (by simpa using hlt), World.frozen?_setCell]
    exact f1
  · rw [cell_alloc _ _ _ _ (by simpa using hlt), World.cell?_setCell_other _ _ _ _ (by simp)]
    exact h0
  · rw [cell_alloc _ _ _ _ (by simpa using hlt)]
    exact World.cell?_setCell_same _ _ _ h1

set_option maxHeartbeats 400000 in
theorem fail_none (D B g o cap : Nat) (L : List UInt8) (s : ByteArray) (w : World) (hD : DecS w D B g o cap L none) :
    Calls Tryf.prog 22 #[.pointer (some ⟨D, 0, none⟩), .string s] w fun e w' => e = .returned (.tuple #[]) ∧ w = w' := by
  obtain ⟨f0, f1, ⟨a, n, c, h0⟩, y, t, h1, hy, hB⟩ := hD
  go_enter Tryf.func22, Tryf.ntmps22
  go_wp2
  go_end0
  exact ⟨rfl, rfl⟩

/-- What (*decoder).uvarint hands back, and where the decoder then is. -/
def stVar (L : List UInt8) : Option Nat → Nat × Option Nat
  | none => (0, none)
  | some p => match rVar L p with
    | none => (0, none)
    | some (v, q) => (v, some q)

theorem buf_drop {w : World} {g o p : Nat} {L : List UInt8} (hb : BufAt w g o L) : ∀ j (hj : j < (L.drop p).length), w.cell? ⟨g, o + p + j, none⟩ = some (.int .u8 ((L.drop p)[j]).toNat) := by
  intro j hj
  rw [List.length_drop] at hj
  have := hb (p + j) (by omega)
  rw [Nat.add_assoc, List.getElem_drop]
  exact this

set_option maxHeartbeats 400000 in
theorem uv_none (D B g o cap : Nat) (L : List UInt8) (w : World) (hD : DecS w D B g o cap L none) :
    Calls Tryf.prog 20 #[.pointer (some ⟨D, 0, none⟩)] w fun e w' => e = .returned (.int .u64 0) ∧ w = w' := by
  obtain ⟨f0, f1, ⟨a, n, c, h0⟩, y, t, h1, hy, hB⟩ := hD
  go_enter Tryf.func20, Tryf.ntmps20
  go_wp2
  go_ret
  exact ⟨rfl, rfl⟩

set_option maxHeartbeats 400000 in
theorem uv_bad (D B g o cap p : Nat) (L : List UInt8) (w : World) (hD : DecS w D B g o cap L (some p)) (hB : B ≤ w.heap.size) (hb : BufAt w g o L) (hr : rVar L p = none) :
    Calls Tryf.prog 20 #[.pointer (some ⟨D, 0, none⟩)] w fun e w' => e = .returned (.int .u64 0) ∧ w.grownBy w' (some D) ∧ DecS w' D B g o cap L none := by
  have hf := fail_some D B g o cap p L ⟨#[97, 32, 110, 117, 109, 98, 101, 114, 32, 99, 117, 116, 32, 115, 104, 111, 114, 116, 32, 111, 114, 32, 116, 111, 111, 32, 108, 97, 114, 103, 101]⟩ w hD hB
  obtain ⟨f0, f1, hp, h1, x, h0, hx⟩ := hD
  obtain ⟨v, k, hk, hu⟩ : ∃ (v : Nat) (k : Int), k ≤ 0 ∧ Calls Tryf.prog 27 #[.slice (some x) (L.length - p) (cap - p)] w fun e w' => e = .returned (.tuple #[.int .u64 v, .int .i64 k]) ∧ w' = w := by
    by_cases hlt : p < L.length
    · rw [hx hlt]
      exact ⟨_, _, rVar_none hr, Tryf.binary_Uvarint g (o + p) (L.length - p) (cap - p) (L.drop p) w (by simp) (buf_drop hb)⟩
    · have h0' : L.length - p = 0 := by omega
      rw [h0']
      exact ⟨_, _, by decide, Tryf.binary_Uvarint_empty (some x) (cap - p) w⟩
  clear hx hb hr
  go_enter Tryf.func20, Tryf.ntmps20
  go_wp2_with fail
  refine hu.mono ?_
  rintro e w1 ⟨rfl, rfl⟩
  go_wp2_with fail
  refine hf.mono ?_
  rintro e w2 ⟨rfl, hg, hd⟩
  have HG : Hid (w1.grownBy w2 (some D)) := hg
  have HD : Hid (DecS w2 D B g o cap L none) := hd
  clear hg hd hf hu
  go_wp2_with fail
  go_ret
  exact ⟨rfl, HG.out, HD.out⟩

theorem dec_step {w : World} {D B g o cap q n0 c0 : Nat} {L : List UInt8} {a0 : Option Addr} (f0 : w.frozen? ⟨D, 0, none⟩ = false) (f1 : w.frozen? ⟨D, 1, none⟩ = false) (h1 : w.cell? ⟨D, 1, none⟩ = some .nilIface) (h0 : w.cell? ⟨D, 0, none⟩ = some (.slice a0 n0 c0))
    (hq : q ≤ L.length) (x : Addr) (n c : Nat) (hn : n = L.length - q) (hc : c = cap - q) (hx : q < L.length → x = ⟨g, o + q, none⟩) : DecS (w.setCell ⟨D, 0, none⟩ (.slice (some x) n c)) D B g o cap L (some q) := by
  subst hn hc
  refine ⟨by simpa using f0, by simpa using f1, hq, ?_, x, World.cell?_setCell_same _ _ _ h0, hx⟩
  rw [World.cell?_setCell_other _ _ _ _ (by simp)]; exact h1

set_option maxHeartbeats 400000 in
theorem uv_good (D B g o cap p v q : Nat) (L : List UInt8) (w : World) (hD : DecS w D B g o cap L (some p)) (hcap : L.length ≤ cap) (hb : BufAt w g o L) (hr : rVar L p = some (v, q)) :
    Calls Tryf.prog 20 #[.pointer (some ⟨D, 0, none⟩)] w fun e w' => e = .returned (.int .u64 (v : Int)) ∧ w.grownBy w' (some D) ∧ DecS w' D B g o cap L (some q) := by
  obtain ⟨f0, f1, hp, h1, x, h0, hx⟩ := hD
  obtain ⟨r1, r2, r3, r4⟩ := rVar_some hr
  have hx' := hx (by omega)
  subst hx'
  have hu := Tryf.binary_Uvarint g (o + p) (L.length - p) (cap - p) (L.drop p) w (by simp) (buf_drop hb)
  rw [r4] at hu
  obtain ⟨k, hk⟩ : ∃ k, q - p = k := ⟨_, rfl⟩
  rw [hk] at hu
  obtain rfl : q = p + k := by omega
  have hk0 : 0 < k := by omega
  clear hx hb hr r4 hk r1
  generalize hN : L.length - p = N at *
  generalize hC : cap - p = C at *
  have HN : Hid (L.length - p = N) := hN
  have HC : Hid (cap - p = C) := hC
  have hkN : k ≤ N := by omega
  have hNC : N ≤ C := by omega
  clear hN hC
  go_enter Tryf.func20, Tryf.ntmps20
  go_wp2_with fail
  refine hu.mono ?_
  rintro e w1 ⟨rfl, rfl⟩
  clear hu
  go_wp2_with fail
  all_goals
    go_ret
    have e1 := HN.out
    have e2 := HC.out
    exact ⟨rfl, gb_set _ D 0 _, dec_step f0 f1 h1 h0 r2 _ _ _ (by omega) (by omega) (fun hlt => by first | (exfalso; omega) | (rw [Nat.add_assoc]))⟩

theorem uv_any (D B g o cap : Nat) (L : List UInt8) (st : Option Nat) (w : World) (hD : DecS w D B g o cap L st) (hB : B ≤ w.heap.size) (hcap : L.length ≤ cap) (hb : BufAt w g o L) :
    Calls Tryf.prog 20 #[.pointer (some ⟨D, 0, none⟩)] w fun e w' => e = .returned (.int .u64 ((stVar L st).1 : Int)) ∧ w.grownBy w' (some D) ∧ DecS w' D B g o cap L (stVar L st).2 := by
  cases st with
  | none => exact (uv_none D B g o cap L w hD).mono fun e w' ⟨he, hw⟩ => ⟨he, hw ▸ gb_refl _ _, hw ▸ hD⟩
  | some p =>
    cases hr : rVar L p with
    | none =>
      have e : stVar L (some p) = (0, none) := by simp [stVar, hr]
      rw [e]
      exact uv_bad D B g o cap p L w hD hB hb hr
    | some x =>
      obtain ⟨v, q⟩ := x
      have e : stVar L (some p) = (v, some q) := by simp [stVar, hr]
      rw [e]
      exact uv_good D B g o cap p v q L w hD hcap hb hr
end Go.Proofs.Qxb6616623aFmt
