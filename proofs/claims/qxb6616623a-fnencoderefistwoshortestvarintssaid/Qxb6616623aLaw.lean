/-
  The walk of FnEncodeRefIsTwoShortestVarints.
-/
import Derived.Test.Qxb6616623aUv
namespace Go.Proofs.Qxb6616623a
open Go.RowKit Go.Lib Go.Shelf

theorem ret_bool {a b : Bool} (h : a = b) : Ending.returned (.bool a) = .returned (.bool b) := by rw [h]

theorem dec_below {w w' : World} {D B n c : Nat} {a : Option Addr} (h : DecAt w D a n c) (hb : Below B w w') (hD : D < B) : DecAt w' D a n c := by
  obtain ⟨h0, h1, h2, h3⟩ := h
  have hc : ∀ o, w'.cell? ⟨D, o, none⟩ = w.cell? ⟨D, o, none⟩ := fun o => hb.cell (p := ⟨D, o, none⟩) hD
  have hf : ∀ o, w'.frozen? ⟨D, o, none⟩ = w.frozen? ⟨D, o, none⟩ := fun o => hb.frozen (p := ⟨D, o, none⟩) hD
  exact ⟨by rw [hc, h0], by rw [hc, h1], by rw [hf, h2], by rw [hf, h3]⟩

set_option maxHeartbeats 2000000 in
theorem law_any (s : Int) (S I : Nat) (w : World) (hS : IntKind.u64.wrap s = (S : Int)) (hS64 : S < 18446744073709551616) (hI64 : I < 18446744073709551616) :
    Calls Try.prog 3 #[.int .i64 s, .int .u64 (I : Int)] w fun e w' => e = .returned (.bool true) ∧ Below w.heap.size w w' := by
  have he := enc_any s S I w hS hS64 hI64
  have v1 := fun (W : World) => varlen_any S W hS64
  have v2 := fun (W : World) => varlen_any I W hI64
  have hS10 := uvarint_length64 hS64
  have hI10 := uvarint_length64 hI64
  have hS1 := uvarint_pos S
  have hI1 := uvarint_pos I
  go_enter Try.func3, Try.ntmps3
  go_wp2_with fail
  refine he.mono ?_
  rintro e w1 ⟨g, cap, rfl, hg0, hg1, hcap, hcell, hb1⟩
  clear he
  have HC1 : Hid (∀ j (hj : j < (uvarint S ++ uvarint I).length), w1.cell? ⟨g, 0 + j, none⟩ = some (.int .u8 ((uvarint S ++ uvarint I)[j]).toNat)) := hcell
  have HB1 : Hid (Below w.heap.size w w1) := hb1
  clear hcell hb1
  go_wp2_with fail
  refine (v1 _).mono ?_
  rintro e w' ⟨rfl, rfl⟩
  go_wp2_with fail
  refine (v2 _).mono ?_
  rintro e w' ⟨rfl, rfl⟩
  clear v1 v2
  generalize hLS : (uvarint S).length = LS at *
  generalize hLI : (uvarint I).length = LI at *
  have HLS : Hid ((uvarint S).length = LS) := hLS
  have HLI : Hid ((uvarint I).length = LI) := hLI
  clear hLS hLI
  go_wp2_with fail
  refine (new_any _ _ _ _).mono ?_
  rintro e w2 ⟨rfl, hw2⟩
  have HD2 : Hid (DecAt w2 w1.heap.size (some ⟨g, 0, none⟩) (LS + LI) cap) := by rw [← hw2]; exact dec_new _ _ _ _
  have HB12 : Hid (Below w1.heap.size w1 w2) := by rw [← hw2]; exact (Below.refl _ _).alloc (Nat.le_refl _) _
  clear hw2
  have hs1 : w.heap.size ≤ w1.heap.size := HB1.out.size
  have HB2 : Hid (Below w.heap.size w w2) := HB1.out.trans (HB12.out.mono hs1)
  have HC2 : Hid (∀ j (hj : j < (uvarint S ++ uvarint I).length), w2.cell? ⟨g, 0 + j, none⟩ = some (.int .u8 ((uvarint S ++ uvarint I)[j]).toNat)) := fun j hj => (HB12.out.cell (p := ⟨g, 0 + j, none⟩) hg1).trans (HC1.out j hj)
  have hu1 := zzuv_ok w1.heap.size g 0 (LS + LI) cap S LS (uvarint S ++ uvarint I) w2 (by rw [List.length_append, HLS.out, HLI.out]) HC2.out (by rw [dec_of_enc S _ hS64, HLS.out]) (by omega) (by omega) hcap (by omega) HD2.out
  go_wp2_with fail
  refine hu1.mono ?_
  rintro e w3 ⟨rfl, a3, hw3, ha3⟩
  clear hu1
  have ha3' := ha3 (by omega)
  subst ha3'
  clear ha3
  have HD3 : Hid (DecAt w3 w1.heap.size (some ⟨g, 0 + LS, none⟩) LI (cap - LS)) := by
    have := dec_set (a' := some ⟨g, 0 + LS, none⟩) (n' := LS + LI - LS) (c' := cap - LS) HD2.out
    rw [← hw3, Nat.add_sub_cancel_left] at this
    exact this
  have HB23 : Hid (Below w1.heap.size w2 w3) := by rw [hw3]; exact (Below.refl _ _).setCell (p := ⟨w1.heap.size, 0, none⟩) (Nat.le_refl _) _
  clear hw3
  have HB3 : Hid (Below w.heap.size w w3) := HB2.out.trans (HB23.out.mono hs1)
  have HC3 : Hid (∀ j (hj : j < (uvarint I).length), w3.cell? ⟨g, 0 + LS + j, none⟩ = some (.int .u8 ((uvarint I)[j]).toNat)) := by
    intro j hj
    have h1 := HLS.out
    rw [HB23.out.cell (p := ⟨g, 0 + LS + j, none⟩) hg1]
    have := HC2.out (LS + j) (by rw [List.length_append]; omega)
    rw [List.getElem_append_right (by omega)] at this
    simp only [h1, Nat.add_sub_cancel_left] at this
    rw [Nat.zero_add] at this
    rw [Nat.zero_add]
    exact this
  have hu2 := zzuv_ok w1.heap.size g (0 + LS) LI (cap - LS) I LI (uvarint I) w3 HLI.out HC3.out (by have := dec_of_enc I [] hI64; rw [List.append_nil, HLI.out] at this; exact this) (by omega) (by omega) (by omega) (by omega) HD3.out
  go_wp2_with fail
  refine hu2.mono ?_
  rintro e w4 ⟨rfl, a4, hw4, ha4⟩
  clear hu2 ha4
  have HD4 : Hid (DecAt w4 w1.heap.size a4 0 (cap - LS - LI)) := by
    have := dec_set (a' := a4) (n' := LI - LI) (c' := cap - LS - LI) HD3.out
    rw [← hw4, Nat.sub_self] at this
    exact this
  have HB4 : Hid (Below w.heap.size w w4) := by
    rw [hw4]
    exact HB3.out.setCell (p := ⟨w1.heap.size, 0, none⟩) hs1 _
  clear hw4
  have hf := failed_no w1.heap.size 0 (cap - LS - LI) a4 w4 HD4.out
  have hr := rest_any w1.heap.size 0 (cap - LS - LI) a4 w4 HD4.out
  go_wp2_with fail
  refine hf.mono ?_
  rintro e w' ⟨rfl, rfl⟩
  go_wp2_with fail
  refine hr.mono ?_
  rintro e w' ⟨rfl, rfl⟩
  go_wp2_with fail
  go_ret
  exact ⟨rfl, HB4.out⟩
end Go.Proofs.Qxb6616623a
