/-
  DecodeMessage behind its first byte.
-/
import Derived.Test.Qxb6616623aFmtMsgA
namespace Go.Proofs.Qxb6616623aFmt
open Go.RowKit Go.Lib Go.Shelf
open Go.Stop (Interp)
set_option linter.unusedVariables false

/-- An entry as it lies in block E. -/
def EntAt (w : World) (g o E i : Nat) (e : Ent) : Prop :=
  w.cell? ⟨E, i * 5, none⟩ = some (.int .i64 (e.space : Int)) ∧ w.cell? ⟨E, i * 5 + 1, none⟩ = some (.int .u64 (e.index : Int)) ∧ w.cell? ⟨E, i * 5 + 2, none⟩ = some (.int .u64 (e.ballot : Int)) ∧ w.cell? ⟨E, i * 5 + 3, none⟩ = some (.int .u64 (e.accepted : Int)) ∧
  ∃ a n c, w.cell? ⟨E, i * 5 + 4, none⟩ = some (.slice a n c) ∧ ValIs g o e.val (.slice a n c)

/-- The entries as they lie in memory: nil where there is none; else a new block from B on. -/
def EntsIs (w : World) (g o B : Nat) (es : List Ent) (x : Value) : Prop :=
  match es with
  | [] => x = .slice none 0 0
  | _ :: _ => ∃ E, x = .slice (some ⟨E, 0, none⟩) es.length es.length ∧ B ≤ E ∧ ∀ i (h : i < es.length), EntAt w g o E i es[i]

/-- The message that was accepted. -/
def Accepted (w : World) (g o : Nat) (m : Msg) (e : Ending) (w' : World) : Prop :=
  ∃ a n c ea en ec, e = .returned (.tuple #[.agg #[.int .u8 (m.typ : Int), .int .i64 0, .int .i64 0, .int .u64 (m.tag : Int), .int .u64 (m.place : Int), .int .u64 (m.ballot : Int), .slice a n c, .slice ea en ec, .bool m.synced], .nilIface]) ∧
    ValIs g o m.val (.slice a n c) ∧ EntsIs w' g o w.heap.size m.ents (.slice ea en ec) ∧ Below w.heap.size w w'

set_option maxHeartbeats 4000000 in
theorem msg_many (F : Interp) (g o c : Nat) (L : List UInt8) (b t : Nat) (sy : Bool) (w : World) (hF : F.answers w.tape) (hn : 0 < L.length) (hnc : L.length ≤ c) (hl9 : L.length ≤ 1048576) (hc9 : c ≤ 9223372036854775807) (hbuf : BufAt w g o L) (hb0 : (L[0]).toNat = b) (ht : typOk t = true) (hbit1 : bits .andNot .u8 (b : Int) 128 = (t : Int)) (hbit2 : (bits .and .u8 (b : Int) 128 != 0) = sy)
    (v1 v2 v3 v5 : Nat) (x4 : Option (Nat × Nat)) (st1 st2 st3 st4 st5 : Option Nat) (k1 : stVar L (some 1) = (v1, st1)) (k2 : stVar L st1 = (v2, st2)) (k3 : stVar L st2 = (v3, st3)) (k4 : stVal L st3 = (x4, st4)) (k5 : stVar L st4 = (v5, st5)) (p : Nat) (hs5 : st5 = some p) (hmany : (L.length - p) / 5 < v5) :
    Calls Tryf.prog 9 #[.slice (some ⟨g, o, none⟩) L.length c] w (Refused w) := by
  have hb : w.cell? ⟨g, o, none⟩ = some (.int .u8 (b : Int)) := by
    have := hbuf 0 hn
    rw [Nat.add_zero, hb0] at this
    exact this
  have hlt : g < w.heap.size := block_lt_of_cell hb
  have hv1 := stVar_lt L (some 1)
  have hv2 := stVar_lt L st1
  have hv3 := stVar_lt L st2
  have hv5 := stVar_lt L st4
  rw [k1] at hv1
  rw [k2] at hv2
  rw [k3] at hv3
  rw [k5] at hv5
  have K1 : Hid (stVar L (some 1) = (v1, st1)) := k1
  have K2 : Hid (stVar L st1 = (v2, st2)) := k2
  have K3 : Hid (stVar L st2 = (v3, st3)) := k3
  have K4 : Hid (stVal L st3 = (x4, st4)) := k4
  have K5 : Hid (stVar L st4 = (v5, st5)) := k5
  have HBUF : Hid (BufAt w g o L) := hbuf
  clear k1 k2 k3 k4 k5 hbuf hb0
  have hn0 : ((L.length : Int) == 0) = false := by rw [beq_eq_false_iff_ne]; omega
  have hlt1 : g < w.heap.size + 1 := by omega
  have hlt2 : g < w.heap.size + 1 + 1 := by omega
  have hlt3 : g < w.heap.size + 1 + 1 + 1 := by omega
  have hnI : (0 : Int) < (L.length : Int) := by omega
  obtain ⟨x, hsl, hx⟩ := slice1 g o L.length c hn hnc hc9
  have HX : Hid (1 < L.length → x = ⟨g, o + 1, none⟩) := hx
  clear hx
  go_enter Tryf.func9, Tryf.ntmps9
  go_wp2
  go_region
  go_wp2_with fail
  have hv := fun W => valid_any t W
  rw [ht] at hv
  refine (hv _).mono ?_
  rintro e w0 ⟨rfl, hw0⟩
  have D0 : Hid (DM w w0 g o c L (some 1) t (.int .u64 0) (.int .u64 0) (.int .u64 0) (.slice none 0 0) (.slice none 0 0) sy) := by
    rw [← hw0]; exact dm_start w g o c L t sy x hn HX.out
  clear hv hw0 hbit1 hbit2 hsl hlt1 hlt2 hlt3 hn0 hnI hb
  go_wp2_with fail
  have u1 := uv_any _ _ _ _ _ L (some 1) w0 D0.out.dec (Nat.zero_le _) hnc (buf_below HBUF.out D0.out.below hlt)
  rw [K1.out] at u1
  refine u1.mono ?_
  rintro e w1 ⟨rfl, hg1, hd1⟩
  have D1 : Hid (DM w w1 g o c L st1 t (.int .u64 0) (.int .u64 0) (.int .u64 0) (.slice none 0 0) (.slice none 0 0) sy) := D0.out.next hg1 hd1
  obtain ⟨q0, q1, q2, q3, q4, q5, q6, q7, q8, qf⟩ := nine_cells D1.out.msg
  clear u1 hg1 hd1 D0
  go_wp2_with fail
  clear q0 q1 q2 q3 q4 q5 q6 q7 q8 qf
  have D1' := D1.out.s3 (.int .u64 (v1 : Int))
  have u2 := uv_any _ _ _ _ _ L st1 _ D1'.dec (Nat.zero_le _) hnc (buf_below HBUF.out D1'.below hlt)
  rw [K2.out] at u2
  refine u2.mono ?_
  rintro e w2 ⟨rfl, hg2, hd2⟩
  have D2 : Hid (DM w w2 g o c L st2 t (.int .u64 (v1 : Int)) (.int .u64 0) (.int .u64 0) (.slice none 0 0) (.slice none 0 0) sy) := D1'.next hg2 hd2
  obtain ⟨q0, q1, q2, q3, q4, q5, q6, q7, q8, qf⟩ := nine_cells D2.out.msg
  clear u2 hg2 hd2 D1 D1'
  go_wp2_with fail
  clear q0 q1 q2 q3 q4 q5 q6 q7 q8 qf
  have D2' := D2.out.s4 (.int .u64 (v2 : Int))
  have u3 := uv_any _ _ _ _ _ L st2 _ D2'.dec (Nat.zero_le _) hnc (buf_below HBUF.out D2'.below hlt)
  rw [K3.out] at u3
  refine u3.mono ?_
  rintro e w3 ⟨rfl, hg3, hd3⟩
  have D3 : Hid (DM w w3 g o c L st3 t (.int .u64 (v1 : Int)) (.int .u64 (v2 : Int)) (.int .u64 0) (.slice none 0 0) (.slice none 0 0) sy) := D2'.next hg3 hd3
  obtain ⟨q0, q1, q2, q3, q4, q5, q6, q7, q8, qf⟩ := nine_cells D3.out.msg
  clear u3 hg3 hd3 D2 D2'
  go_wp2_with fail
  clear q0 q1 q2 q3 q4 q5 q6 q7 q8 qf
  have D3' := D3.out.s5 (.int .u64 (v3 : Int))
  have u4 := val_any _ _ _ _ _ L st3 _ D3'.dec (Nat.zero_le _) hnc (by omega) (buf_below HBUF.out D3'.below hlt)
  rw [K4.out] at u4
  refine u4.mono ?_
  rintro e w4 ⟨x5, rfl, hval, hg4, hd4⟩
  obtain ⟨va, vn, vc, hform⟩ := hval.form
  rw [hform] at hval
  rw [hform]
  clear hform
  have HVAL : Hid (ValIs g o x4 (.slice va vn vc)) := hval
  have D4 : Hid (DM w w4 g o c L st4 t (.int .u64 (v1 : Int)) (.int .u64 (v2 : Int)) (.int .u64 (v3 : Int)) (.slice none 0 0) (.slice none 0 0) sy) := D3'.next hg4 hd4
  obtain ⟨q0, q1, q2, q3, q4, q5, q6, q7, q8, qf⟩ := nine_cells D4.out.msg
  clear u4 hg4 hd4 D3 D3' hval
  go_wp2_with fail
  clear q0 q1 q2 q3 q4 q5 q6 q7 q8 qf
  have D4' := D4.out.s6 (.slice va vn vc)
  have u5 := uv_any _ _ _ _ _ L st4 _ D4'.dec (Nat.zero_le _) hnc (buf_below HBUF.out D4'.below hlt)
  rw [K5.out] at u5
  refine u5.mono ?_
  rintro e w5 ⟨rfl, hg5, hd5⟩
  have D5 : Hid (DM w w5 g o c L st5 t (.int .u64 (v1 : Int)) (.int .u64 (v2 : Int)) (.int .u64 (v3 : Int)) (.slice va vn vc) (.slice none 0 0) sy) := D4'.next hg5 hd5
  clear u5 hg5 hd5 D4 D4'
  subst hs5
  have hpl : L.length - p ≤ 1048576 := by omega
  have hmanyI : (((L.length - p : Nat) : Int) / 5) < (v5 : Int) := by omega
  have hv0 : 0 < v5 := by omega
  obtain ⟨df0, df1, dp, d1, dx, d0, dh⟩ := D5.out.dec
  clear dh
  go_wp2_with fail
  refine (fail_any _ _ _ _ _ L (some p) _ w5 D5.out.dec (Nat.zero_le _)).mono ?_
  rintro e w6 ⟨rfl, hgf, hdf⟩
  have D6 : Hid (DM w w6 g o c L none t (.int .u64 (v1 : Int)) (.int .u64 (v2 : Int)) (.int .u64 (v3 : Int)) (.slice va vn vc) (.slice none 0 0) sy) := D5.out.next hgf hdf
  clear df0 df1 d1 d0 hgf hdf D5
  obtain ⟨q0, q1, q2, q3, q4, q5, q6, q7, q8, qf⟩ := nine_cells D6.out.msg
  obtain ⟨df0, df1, ⟨da, dn, dc, d0⟩, y, sE, d1, hy, _⟩ := D6.out.dec
  have hRM := D6.out.size
  have hyl : y < w6.heap.size := block_lt_of_cell hy
  go_wp2_with fail
  refine (errf2 F w6.heap.size t ⟨y, 0, none⟩ sE _ ?_ ?_ ?_ ?_).mono ?_
  · show F.answers w6.tape
    rw [D6.out.below.tape]; exact hF
  · simp
  · simp
  · rw [cell_alloc _ _ _ _ hyl]; exact hy
  rintro e wz ⟨T, p, rfl, hbz⟩
  have hR : wz.heap[w.heap.size]? = some (.cells zeroMsg 35 (0, 0)) := by
    rw [hbz.block w.heap.size (by simp; omega), Below.heap_alloc _ _ _ (by omega)]
    exact D6.out.res
  have HB : Hid (Below w.heap.size w wz) := (D6.out.below.alloc (by omega) _).trans (hbz.mono (by simp; omega))
  have HR : Hid (wz.heap[w.heap.size]? = some (.cells zeroMsg 35 (0, 0))) := hR
  clear q0 q1 q2 q3 q4 q5 q6 q7 q8 qf d0 d1 df0 df1 hy
  obtain ⟨q0, q1, q2, q3, q4, q5, q6, q7, q8, qf⟩ := nine_cells hR
  clear hbz hR
  go_wp2_with fail
  refine bodyPost_ret (res9z _ w.heap.size _ _ rfl rfl (set9_heap wz w.heap.size _ _ _ _ _ _ _ _ _ _ _ _ _ _ _ _ _ _ HR.out)) rfl ?_
  exact ⟨T, p, rfl, set9_below w.heap.size _ _ _ _ _ _ _ _ _ HB.out (Nat.le_refl _)⟩
set_option maxHeartbeats 4000000 in
theorem msg_rest (F : Interp) (g o c : Nat) (L : List UInt8) (b t : Nat) (sy : Bool) (w : World) (hF : F.answers w.tape) (hn : 0 < L.length) (hnc : L.length ≤ c) (hl9 : L.length ≤ 1048576) (hc9 : c ≤ 9223372036854775807) (hbuf : BufAt w g o L) (hb0 : (L[0]).toNat = b) (ht : typOk t = true) (hbit1 : bits .andNot .u8 (b : Int) 128 = (t : Int)) (hbit2 : (bits .and .u8 (b : Int) 128 != 0) = sy)
    (v1 v2 v3 v5 : Nat) (x4 : Option (Nat × Nat)) (st1 st2 st3 st4 st5 : Option Nat) (k1 : stVar L (some 1) = (v1, st1)) (k2 : stVar L st1 = (v2, st2)) (k3 : stVar L st2 = (v3, st3)) (k4 : stVal L st3 = (x4, st4)) (k5 : stVar L st4 = (v5, st5)) (p : Nat) (hs5 : st5 = some p) (hv50 : v5 = 0) (hrest : p < L.length) :
    Calls Tryf.prog 9 #[.slice (some ⟨g, o, none⟩) L.length c] w (Refused w) := by
  have hb : w.cell? ⟨g, o, none⟩ = some (.int .u8 (b : Int)) := by
    have := hbuf 0 hn
    rw [Nat.add_zero, hb0] at this
    exact this
  have hlt : g < w.heap.size := block_lt_of_cell hb
  have hv1 := stVar_lt L (some 1)
  have hv2 := stVar_lt L st1
  have hv3 := stVar_lt L st2
  have hv5 := stVar_lt L st4
  rw [k1] at hv1
  rw [k2] at hv2
  rw [k3] at hv3
  rw [k5] at hv5
  have K1 : Hid (stVar L (some 1) = (v1, st1)) := k1
  have K2 : Hid (stVar L st1 = (v2, st2)) := k2
  have K3 : Hid (stVar L st2 = (v3, st3)) := k3
  have K4 : Hid (stVal L st3 = (x4, st4)) := k4
  have K5 : Hid (stVar L st4 = (v5, st5)) := k5
  have HBUF : Hid (BufAt w g o L) := hbuf
  clear k1 k2 k3 k4 k5 hbuf hb0
  have hn0 : ((L.length : Int) == 0) = false := by rw [beq_eq_false_iff_ne]; omega
  have hlt1 : g < w.heap.size + 1 := by omega
  have hlt2 : g < w.heap.size + 1 + 1 := by omega
  have hlt3 : g < w.heap.size + 1 + 1 + 1 := by omega
  have hnI : (0 : Int) < (L.length : Int) := by omega
  obtain ⟨x, hsl, hx⟩ := slice1 g o L.length c hn hnc hc9
  have HX : Hid (1 < L.length → x = ⟨g, o + 1, none⟩) := hx
  clear hx
  go_enter Tryf.func9, Tryf.ntmps9
  go_wp2
  go_region
  go_wp2_with fail
  have hv := fun W => valid_any t W
  rw [ht] at hv
  refine (hv _).mono ?_
  rintro e w0 ⟨rfl, hw0⟩
  have D0 : Hid (DM w w0 g o c L (some 1) t (.int .u64 0) (.int .u64 0) (.int .u64 0) (.slice none 0 0) (.slice none 0 0) sy) := by
    rw [← hw0]; exact dm_start w g o c L t sy x hn HX.out
  clear hv hw0 hbit1 hbit2 hsl hlt1 hlt2 hlt3 hn0 hnI hb
  go_wp2_with fail
  have u1 := uv_any _ _ _ _ _ L (some 1) w0 D0.out.dec (Nat.zero_le _) hnc (buf_below HBUF.out D0.out.below hlt)
  rw [K1.out] at u1
  refine u1.mono ?_
  rintro e w1 ⟨rfl, hg1, hd1⟩
  have D1 : Hid (DM w w1 g o c L st1 t (.int .u64 0) (.int .u64 0) (.int .u64 0) (.slice none 0 0) (.slice none 0 0) sy) := D0.out.next hg1 hd1
  obtain ⟨q0, q1, q2, q3, q4, q5, q6, q7, q8, qf⟩ := nine_cells D1.out.msg
  clear u1 hg1 hd1 D0
  go_wp2_with fail
  clear q0 q1 q2 q3 q4 q5 q6 q7 q8 qf
  have D1' := D1.out.s3 (.int .u64 (v1 : Int))
  have u2 := uv_any _ _ _ _ _ L st1 _ D1'.dec (Nat.zero_le _) hnc (buf_below HBUF.out D1'.below hlt)
  rw [K2.out] at u2
  refine u2.mono ?_
  rintro e w2 ⟨rfl, hg2, hd2⟩
  have D2 : Hid (DM w w2 g o c L st2 t (.int .u64 (v1 : Int)) (.int .u64 0) (.int .u64 0) (.slice none 0 0) (.slice none 0 0) sy) := D1'.next hg2 hd2
  obtain ⟨q0, q1, q2, q3, q4, q5, q6, q7, q8, qf⟩ := nine_cells D2.out.msg
  clear u2 hg2 hd2 D1 D1'
  go_wp2_with fail
  clear q0 q1 q2 q3 q4 q5 q6 q7 q8 qf
  have D2' := D2.out.s4 (.int .u64 (v2 : Int))
  have u3 := uv_any _ _ _ _ _ L st2 _ D2'.dec (Nat.zero_le _) hnc (buf_below HBUF.out D2'.below hlt)
  rw [K3.out] at u3
  refine u3.mono ?_
  rintro e w3 ⟨rfl, hg3, hd3⟩
  have D3 : Hid (DM w w3 g o c L st3 t (.int .u64 (v1 : Int)) (.int .u64 (v2 : Int)) (.int .u64 0) (.slice none 0 0) (.slice none 0 0) sy) := D2'.next hg3 hd3
  obtain ⟨q0, q1, q2, q3, q4, q5, q6, q7, q8, qf⟩ := nine_cells D3.out.msg
  clear u3 hg3 hd3 D2 D2'
  go_wp2_with fail
  clear q0 q1 q2 q3 q4 q5 q6 q7 q8 qf
  have D3' := D3.out.s5 (.int .u64 (v3 : Int))
  have u4 := val_any _ _ _ _ _ L st3 _ D3'.dec (Nat.zero_le _) hnc (by omega) (buf_below HBUF.out D3'.below hlt)
  rw [K4.out] at u4
  refine u4.mono ?_
  rintro e w4 ⟨x5, rfl, hval, hg4, hd4⟩
  obtain ⟨va, vn, vc, hform⟩ := hval.form
  rw [hform] at hval
  rw [hform]
  clear hform
  have HVAL : Hid (ValIs g o x4 (.slice va vn vc)) := hval
  have D4 : Hid (DM w w4 g o c L st4 t (.int .u64 (v1 : Int)) (.int .u64 (v2 : Int)) (.int .u64 (v3 : Int)) (.slice none 0 0) (.slice none 0 0) sy) := D3'.next hg4 hd4
  obtain ⟨q0, q1, q2, q3, q4, q5, q6, q7, q8, qf⟩ := nine_cells D4.out.msg
  clear u4 hg4 hd4 D3 D3' hval
  go_wp2_with fail
  clear q0 q1 q2 q3 q4 q5 q6 q7 q8 qf
  have D4' := D4.out.s6 (.slice va vn vc)
  have u5 := uv_any _ _ _ _ _ L st4 _ D4'.dec (Nat.zero_le _) hnc (buf_below HBUF.out D4'.below hlt)
  rw [K5.out] at u5
  refine u5.mono ?_
  rintro e w5 ⟨rfl, hg5, hd5⟩
  have D5 : Hid (DM w w5 g o c L st5 t (.int .u64 (v1 : Int)) (.int .u64 (v2 : Int)) (.int .u64 (v3 : Int)) (.slice va vn vc) (.slice none 0 0) sy) := D4'.next hg5 hd5
  clear u5 hg5 hd5 D4 D4'
  subst hs5
  subst hv50
  have hpl : L.length - p ≤ 1048576 := by omega
  have hpl0 : 0 < L.length - p := by omega
  obtain ⟨df0, df1, dp, d1, dx, d0, dh⟩ := D5.out.dec
  clear dh
  go_wp2_with fail
  refine (fail_any _ _ _ _ _ L (some p) _ w5 D5.out.dec (Nat.zero_le _)).mono ?_
  rintro e w6 ⟨rfl, hgf, hdf⟩
  have D6 : Hid (DM w w6 g o c L none t (.int .u64 (v1 : Int)) (.int .u64 (v2 : Int)) (.int .u64 (v3 : Int)) (.slice va vn vc) (.slice none 0 0) sy) := D5.out.next hgf hdf
  clear df0 df1 d1 d0 hgf hdf D5
  obtain ⟨q0, q1, q2, q3, q4, q5, q6, q7, q8, qf⟩ := nine_cells D6.out.msg
  obtain ⟨df0, df1, ⟨da, dn, dc, d0⟩, y, sE, d1, hy, _⟩ := D6.out.dec
  have hRM := D6.out.size
  have hyl : y < w6.heap.size := block_lt_of_cell hy
  go_wp2_with fail
  refine (errf2 F w6.heap.size t ⟨y, 0, none⟩ sE _ ?_ ?_ ?_ ?_).mono ?_
  · show F.answers w6.tape
    rw [D6.out.below.tape]; exact hF
  · simp
  · simp
  · rw [cell_alloc _ _ _ _ hyl]; exact hy
  rintro e wz ⟨T, p, rfl, hbz⟩
  have hR : wz.heap[w.heap.size]? = some (.cells zeroMsg 35 (0, 0)) := by
    rw [hbz.block w.heap.size (by simp; omega), Below.heap_alloc _ _ _ (by omega)]
    exact D6.out.res
  have HB : Hid (Below w.heap.size w wz) := (D6.out.below.alloc (by omega) _).trans (hbz.mono (by simp; omega))
  have HR : Hid (wz.heap[w.heap.size]? = some (.cells zeroMsg 35 (0, 0))) := hR
  clear q0 q1 q2 q3 q4 q5 q6 q7 q8 qf d0 d1 df0 df1 hy
  obtain ⟨q0, q1, q2, q3, q4, q5, q6, q7, q8, qf⟩ := nine_cells hR
  clear hbz hR
  go_wp2_with fail
  refine bodyPost_ret (res9z _ w.heap.size _ _ rfl rfl (set9_heap wz w.heap.size _ _ _ _ _ _ _ _ _ _ _ _ _ _ _ _ _ _ HR.out)) rfl ?_
  exact ⟨T, p, rfl, set9_below w.heap.size _ _ _ _ _ _ _ _ _ HB.out (Nat.le_refl _)⟩
set_option maxHeartbeats 4000000 in
theorem msg_whole (F : Interp) (g o c : Nat) (L : List UInt8) (b t : Nat) (sy : Bool) (w : World) (hF : F.answers w.tape) (hn : 0 < L.length) (hnc : L.length ≤ c) (hl9 : L.length ≤ 1048576) (hc9 : c ≤ 9223372036854775807) (hbuf : BufAt w g o L) (hb0 : (L[0]).toNat = b) (ht : typOk t = true) (hbit1 : bits .andNot .u8 (b : Int) 128 = (t : Int)) (hbit2 : (bits .and .u8 (b : Int) 128 != 0) = sy)
    (v1 v2 v3 v5 : Nat) (x4 : Option (Nat × Nat)) (st1 st2 st3 st4 st5 : Option Nat) (k1 : stVar L (some 1) = (v1, st1)) (k2 : stVar L st1 = (v2, st2)) (k3 : stVar L st2 = (v3, st3)) (k4 : stVal L st3 = (x4, st4)) (k5 : stVar L st4 = (v5, st5)) (p : Nat) (hs5 : st5 = some p) (hv50 : v5 = 0) (hrest : p = L.length) :
    Calls Tryf.prog 9 #[.slice (some ⟨g, o, none⟩) L.length c] w (Accepted w g o ⟨t, sy, v1, v2, v3, x4, []⟩) := by
  have hb : w.cell? ⟨g, o, none⟩ = some (.int .u8 (b : Int)) := by
    have := hbuf 0 hn
    rw [Nat.add_zero, hb0] at this
    exact this
  have hlt : g < w.heap.size := block_lt_of_cell hb
  have hv1 := stVar_lt L (some 1)
  have hv2 := stVar_lt L st1
  have hv3 := stVar_lt L st2
  have hv5 := stVar_lt L st4
  rw [k1] at hv1
  rw [k2] at hv2
  rw [k3] at hv3
  rw [k5] at hv5
  have K1 : Hid (stVar L (some 1) = (v1, st1)) := k1
  have K2 : Hid (stVar L st1 = (v2, st2)) := k2
  have K3 : Hid (stVar L st2 = (v3, st3)) := k3
  have K4 : Hid (stVal L st3 = (x4, st4)) := k4
  have K5 : Hid (stVar L st4 = (v5, st5)) := k5
  have HBUF : Hid (BufAt w g o L) := hbuf
  clear k1 k2 k3 k4 k5 hbuf hb0
  have hn0 : ((L.length : Int) == 0) = false := by rw [beq_eq_false_iff_ne]; omega
  have hlt1 : g < w.heap.size + 1 := by omega
  have hlt2 : g < w.heap.size + 1 + 1 := by omega
  have hlt3 : g < w.heap.size + 1 + 1 + 1 := by omega
  have hnI : (0 : Int) < (L.length : Int) := by omega
  obtain ⟨x, hsl, hx⟩ := slice1 g o L.length c hn hnc hc9
  have HX : Hid (1 < L.length → x = ⟨g, o + 1, none⟩) := hx
  clear hx
  go_enter Tryf.func9, Tryf.ntmps9
  go_wp2
  go_region
  go_wp2_with fail
  have hv := fun W => valid_any t W
  rw [ht] at hv
  refine (hv _).mono ?_
  rintro e w0 ⟨rfl, hw0⟩
  have D0 : Hid (DM w w0 g o c L (some 1) t (.int .u64 0) (.int .u64 0) (.int .u64 0) (.slice none 0 0) (.slice none 0 0) sy) := by
    rw [← hw0]; exact dm_start w g o c L t sy x hn HX.out
  clear hv hw0 hbit1 hbit2 hsl hlt1 hlt2 hlt3 hn0 hnI hb
  go_wp2_with fail
  have u1 := uv_any _ _ _ _ _ L (some 1) w0 D0.out.dec (Nat.zero_le _) hnc (buf_below HBUF.out D0.out.below hlt)
  rw [K1.out] at u1
  refine u1.mono ?_
  rintro e w1 ⟨rfl, hg1, hd1⟩
  have D1 : Hid (DM w w1 g o c L st1 t (.int .u64 0) (.int .u64 0) (.int .u64 0) (.slice none 0 0) (.slice none 0 0) sy) := D0.out.next hg1 hd1
  obtain ⟨q0, q1, q2, q3, q4, q5, q6, q7, q8, qf⟩ := nine_cells D1.out.msg
  clear u1 hg1 hd1 D0
  go_wp2_with fail
  clear q0 q1 q2 q3 q4 q5 q6 q7 q8 qf
  have D1' := D1.out.s3 (.int .u64 (v1 : Int))
  have u2 := uv_any _ _ _ _ _ L st1 _ D1'.dec (Nat.zero_le _) hnc (buf_below HBUF.out D1'.below hlt)
  rw [K2.out] at u2
  refine u2.mono ?_
  rintro e w2 ⟨rfl, hg2, hd2⟩
  have D2 : Hid (DM w w2 g o c L st2 t (.int .u64 (v1 : Int)) (.int .u64 0) (.int .u64 0) (.slice none 0 0) (.slice none 0 0) sy) := D1'.next hg2 hd2
  obtain ⟨q0, q1, q2, q3, q4, q5, q6, q7, q8, qf⟩ := nine_cells D2.out.msg
  clear u2 hg2 hd2 D1 D1'
  go_wp2_with fail
  clear q0 q1 q2 q3 q4 q5 q6 q7 q8 qf
  have D2' := D2.out.s4 (.int .u64 (v2 : Int))
  have u3 := uv_any _ _ _ _ _ L st2 _ D2'.dec (Nat.zero_le _) hnc (buf_below HBUF.out D2'.below hlt)
  rw [K3.out] at u3
  refine u3.mono ?_
  rintro e w3 ⟨rfl, hg3, hd3⟩
  have D3 : Hid (DM w w3 g o c L st3 t (.int .u64 (v1 : Int)) (.int .u64 (v2 : Int)) (.int .u64 0) (.slice none 0 0) (.slice none 0 0) sy) := D2'.next hg3 hd3
  obtain ⟨q0, q1, q2, q3, q4, q5, q6, q7, q8, qf⟩ := nine_cells D3.out.msg
  clear u3 hg3 hd3 D2 D2'
  go_wp2_with fail
  clear q0 q1 q2 q3 q4 q5 q6 q7 q8 qf
  have D3' := D3.out.s5 (.int .u64 (v3 : Int))
  have u4 := val_any _ _ _ _ _ L st3 _ D3'.dec (Nat.zero_le _) hnc (by omega) (buf_below HBUF.out D3'.below hlt)
  rw [K4.out] at u4
  refine u4.mono ?_
  rintro e w4 ⟨x5, rfl, hval, hg4, hd4⟩
  obtain ⟨va, vn, vc, hform⟩ := hval.form
  rw [hform] at hval
  rw [hform]
  clear hform
  have HVAL : Hid (ValIs g o x4 (.slice va vn vc)) := hval
  have D4 : Hid (DM w w4 g o c L st4 t (.int .u64 (v1 : Int)) (.int .u64 (v2 : Int)) (.int .u64 (v3 : Int)) (.slice none 0 0) (.slice none 0 0) sy) := D3'.next hg4 hd4
  obtain ⟨q0, q1, q2, q3, q4, q5, q6, q7, q8, qf⟩ := nine_cells D4.out.msg
  clear u4 hg4 hd4 D3 D3' hval
  go_wp2_with fail
  clear q0 q1 q2 q3 q4 q5 q6 q7 q8 qf
  have D4' := D4.out.s6 (.slice va vn vc)
  have u5 := uv_any _ _ _ _ _ L st4 _ D4'.dec (Nat.zero_le _) hnc (buf_below HBUF.out D4'.below hlt)
  rw [K5.out] at u5
  refine u5.mono ?_
  rintro e w5 ⟨rfl, hg5, hd5⟩
  have D5 : Hid (DM w w5 g o c L st5 t (.int .u64 (v1 : Int)) (.int .u64 (v2 : Int)) (.int .u64 (v3 : Int)) (.slice va vn vc) (.slice none 0 0) sy) := D4'.next hg5 hd5
  clear u5 hg5 hd5 D4 D4'
  subst hs5
  subst hv50
  have hpl : L.length - p = 0 := by omega
  obtain ⟨df0, df1, dp, d1, dx, d0, dh⟩ := D5.out.dec
  rw [hpl] at d0
  obtain ⟨q0, q1, q2, q3, q4, q5, q6, q7, q8, qf⟩ := nine_cells D5.out.msg
  obtain ⟨r0, r1, r2, r3, r4, r5, r6, r7, r8, rf⟩ := nine_cells D5.out.res
  clear dh hrest hpl
  go_wp2_with fail
  refine bodyPost_ret (res9 _ w.heap.size _ _ _ _ _ _ _ _ _ _ _ rfl rfl (set9_heap w5 w.heap.size (.int .u8 (t : Int)) (.int .i64 0) (.int .i64 0) (.int .u64 (v1 : Int)) (.int .u64 (v2 : Int)) (.int .u64 (v3 : Int)) (.slice va vn vc) (.slice none 0 0) (.bool sy) _ _ _ _ _ _ _ _ _ D5.out.res)) rfl ?_
  exact ⟨va, vn, vc, none, 0, 0, rfl, HVAL.out, rfl, set9_below w.heap.size _ _ _ _ _ _ _ _ _ D5.out.below (Nat.le_refl _)⟩
end Go.Proofs.Qxb6616623aFmt
