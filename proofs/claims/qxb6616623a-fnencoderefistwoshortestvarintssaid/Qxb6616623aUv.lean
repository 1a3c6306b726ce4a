/-
  The walks of (*decoder).uvarint where a number stands there, and of the thin callers.
-/
import Derived.Test.Qxb6616623aEnc
namespace Go.Proofs.Qxb6616623a
open Go.RowKit Go.Lib Go.Shelf

/-- A decoder lies in block D: what it has not read, no error met. -/
def DecAt (w : World) (D : Nat) (a : Option Addr) (n c : Nat) : Prop :=
  w.cell? ⟨D, 0, none⟩ = some (.slice a n c) ∧ w.cell? ⟨D, 1, none⟩ = some .nilIface ∧ w.frozen? ⟨D, 0, none⟩ = false ∧ w.frozen? ⟨D, 1, none⟩ = false

def UvOk (w : World) (D g o n c v k : Nat) (e : Ending) (w' : World) : Prop :=
  e = .returned (.int .u64 (v : Int)) ∧ ∃ a, w' = w.setCell ⟨D, 0, none⟩ (.slice a (n - k) (c - k)) ∧ (k < n → a = some ⟨g, o + k, none⟩)

theorem dec_set {w : World} {D n c n' c' : Nat} {a a' : Option Addr} (h : DecAt w D a n c) : DecAt (w.setCell ⟨D, 0, none⟩ (.slice a' n' c')) D a' n' c' := by
  obtain ⟨h0, h1, h2, h3⟩ := h
  refine ⟨World.cell?_setCell_same _ _ _ h0, ?_, by simpa using h2, by simpa using h3⟩
  rw [World.cell?_setCell_other _ _ _ _ (by simp)]
  exact h1

set_option maxHeartbeats 1000000 in
theorem uv_ok (D g o n c v k : Nat) (l : List UInt8) (w : World) (hl : l.length = n) (hcell : ∀ j (hj : j < l.length), w.cell? ⟨g, o + j, none⟩ = some (.int .u8 (l[j]).toNat)) (hdec : uvarintDec l = (v, (k : Int))) (hk : 0 < k) (hkn : k ≤ n) (hnc : n ≤ c) (_hc9 : n ≤ 1048576)
    (hD : DecAt w D (some ⟨g, o, none⟩) n c) :
    Calls Try.prog 11 #[.pointer (some ⟨D, 0, none⟩)] w (UvOk w D g o n c v k) := by
  obtain ⟨hd0, hd1, hf0, hf1⟩ := hD
  have hu := Try.binary_Uvarint g o n c l w hl hcell
  rw [hdec] at hu
  clear hcell hdec hl
  go_enter Try.func11, Try.ntmps11
  go_wp2_with fail
  refine hu.mono ?_
  rintro e w' ⟨rfl, rfl⟩
  clear hu
  go_wp2
  · go_ret
    exact ⟨rfl, _, by rw [Nat.sub_self], fun h => absurd h (by omega)⟩
  · go_ret
    exact ⟨rfl, _, rfl, fun _ => rfl⟩

set_option maxHeartbeats 1000000 in
theorem zzuv_ok (D g o n c v k : Nat) (l : List UInt8) (w : World) (hl : l.length = n) (hcell : ∀ j (hj : j < l.length), w.cell? ⟨g, o + j, none⟩ = some (.int .u8 (l[j]).toNat)) (hdec : uvarintDec l = (v, (k : Int))) (hk : 0 < k) (hkn : k ≤ n) (hnc : n ≤ c) (_hc9 : n ≤ 1048576)
    (hD : DecAt w D (some ⟨g, o, none⟩) n c) :
    Calls Try.prog 7 #[.pointer (some ⟨D, 0, none⟩)] w (UvOk w D g o n c v k) := by
  have hu := uv_ok D g o n c v k l w hl hcell hdec hk hkn hnc _hc9 hD
  clear hcell hdec hl hD
  go_enter Try.func7, Try.ntmps7
  go_wp2_with fail
  refine hu.mono ?_
  rintro e w' ⟨rfl, hr⟩
  have HR : Hid (∃ a, w' = w.setCell ⟨D, 0, none⟩ (.slice a (n - k) (c - k)) ∧ (k < n → a = some ⟨g, o + k, none⟩)) := hr
  clear hu hr
  go_wp2
  go_ret
  exact ⟨rfl, HR.out⟩

theorem new_any (a : Option Addr) (n c : Nat) (w : World) :
    Calls Try.prog 6 #[.slice a n c] w fun e w' => e = .returned (.pointer (some ⟨w.heap.size, 0, none⟩)) ∧ w.alloc (.cells #[.slice a n c, .nilIface] 39) = w' := by
  go_enter Try.func6, Try.ntmps6
  go_wp2
  go_ret
  exact ⟨rfl, rfl⟩

theorem dec_new (a : Option Addr) (n c : Nat) (w : World) : DecAt (w.alloc (.cells #[.slice a n c, .nilIface] 39)) w.heap.size a n c := by
  refine ⟨?_, ?_, ?_, ?_⟩ <;> simp

theorem failed_no (D n c : Nat) (a : Option Addr) (w : World) (h : DecAt w D a n c) :
    Calls Try.prog 8 #[.pointer (some ⟨D, 0, none⟩)] w fun e w' => e = .returned (.bool false) ∧ w = w' := by
  obtain ⟨hd0, hd1, _⟩ := h
  go_enter Try.func8, Try.ntmps8
  go_wp2
  go_ret
  exact ⟨rfl, rfl⟩

theorem rest_any (D n c : Nat) (a : Option Addr) (w : World) (h : DecAt w D a n c) :
    Calls Try.prog 9 #[.pointer (some ⟨D, 0, none⟩)] w fun e w' => e = .returned (.int .i64 (n : Int)) ∧ w = w' := by
  obtain ⟨hd0, hd1, _⟩ := h
  go_enter Try.func9, Try.ntmps9
  go_wp2
  go_ret
  exact ⟨rfl, rfl⟩
end Go.Proofs.Qxb6616623a
