/-
  DecodeMessage behind its first byte.
-/
import Derived.Test.Qxb6616623aFmtEnts
namespace Go.Proofs.Qxb6616623aFmt
open Go.RowKit Go.Lib Go.Shelf
open Go.Stop (Interp)
set_option linter.unusedVariables false

set_option maxHeartbeats 4000000 in
theorem msg_loop (F : Interp) (g o c : Nat) (L : List UInt8) (b t : Nat) (sy : Bool) (w : World) (hF : F.answers w.tape) (hn : 0 < L.length) (hnc : L.length ≤ c) (hl9 : L.length ≤ 1048576) (hc9 : c ≤ 9223372036854775807) (hbuf : BufAt w g o L) (hb0 : (L[0]).toNat = b) (ht : typOk t = true) (hbit1 : bits .andNot .u8 (b : Int) 128 = (t : Int)) (hbit2 : (bits .and .u8 (b : Int) 128 != 0) = sy)
    (v1 v2 v3 v5 : Nat) (x4 : Option (Nat × Nat)) (st1 st2 st3 st4 st5 : Option Nat) (k1 : stVar L (some 1) = (v1, st1)) (k2 : stVar L st1 = (v2, st2)) (k3 : stVar L st2 = (v3, st3)) (k4 : stVal L st3 = (x4, st4)) (k5 : stVar L st4 = (v5, st5)) (p : Nat) (hs5 : st5 = some p) (hv50 : 0 < v5) (hfew : ¬ (L.length - p) / 5 < v5) :
    Calls Tryf.prog 9 #[.slice (some ⟨g, o, none⟩) L.length c] w (LoopPost w g o L p v5 (fun es => ⟨t, sy, v1, v2, v3, x4, es⟩)) := by
  have hb : w.cell? ⟨g, o, none⟩ = some (.int .u8 (b : Int)) := by
    have := hbuf 0 hn
    rw [Nat.add_zero, hb0] at this
    exact this
  have hlt : g < w.heap.size := block_lt_of_cell hb
  have hv1 := stVar_lt L (some 1)
  have hv2 := stVar_lt L st1
  have hv3 := stVar_lt L st2
  have hv5 := stVar_lt L st4
  rw [k1] at hv1
  rw [k2] at hv2
  rw [k3] at hv3
  rw [k5] at hv5
  have K1 : Hid (stVar L (some 1) = (v1, st1)) := k1
  have K2 : Hid (stVar L st1 = (v2, st2)) := k2
  have K3 : Hid (stVar L st2 = (v3, st3)) := k3
  have K4 : Hid (stVal L st3 = (x4, st4)) := k4
  have K5 : Hid (stVar L st4 = (v5, st5)) := k5
  have HBUF : Hid (BufAt w g o L) := hbuf
  clear k1 k2 k3 k4 k5 hbuf hb0
  have hn0 : ((L.length : Int) == 0) = false := by rw [beq_eq_false_iff_ne]; omega
  have hlt1 : g < w.heap.size + 1 := by omega
  have hlt2 : g < w.heap.size + 1 + 1 := by omega
  have hlt3 : g < w.heap.size + 1 + 1 + 1 := by omega
  have hnI : (0 : Int) < (L.length : Int) := by omega
  obtain ⟨x, hsl, hx⟩ := slice1 g o L.length c hn hnc hc9
  have HX : Hid (1 < L.length → x = ⟨g, o + 1, none⟩) := hx
  clear hx
  go_enter Tryf.func9, Tryf.ntmps9
  go_wp2
  go_region
  go_wp2_with fail
  have hv := fun W => valid_any t W
  rw [ht] at hv
  refine (hv _).mono ?_
  rintro e w0 ⟨rfl, hw0⟩
  have D0 : Hid (DM w w0 g o c L (some 1) t (.int .u64 0) (.int .u64 0) (.int .u64 0) (.slice none 0 0) (.slice none 0 0) sy) := by
    rw [← hw0]; exact dm_start w g o c L t sy x hn HX.out
  clear hv hw0 hbit1 hbit2 hsl hlt1 hlt2 hlt3 hn0 hnI hb
  go_wp2_with fail
  have u1 := uv_any _ _ _ _ _ L (some 1) w0 D0.out.dec (Nat.zero_le _) hnc (buf_below HBUF.out D0.out.below hlt)
  rw [K1.out] at u1
  refine u1.mono ?_
  rintro e w1 ⟨rfl, hg1, hd1⟩
  have D1 : Hid (DM w w1 g o c L st1 t (.int .u64 0) (.int .u64 0) (.int .u64 0) (.slice none 0 0) (.slice none 0 0) sy) := D0.out.next hg1 hd1
  obtain ⟨q0, q1, q2, q3, q4, q5, q6, q7, q8, qf⟩ := nine_cells D1.out.msg
  clear u1 hg1 hd1 D0
  go_wp2_with fail
  clear q0 q1 q2 q3 q4 q5 q6 q7 q8 qf
  have D1' := D1.out.s3 (.int .u64 (v1 : Int))
  have u2 := uv_any _ _ _ _ _ L st1 _ D1'.dec (Nat.zero_le _) hnc (buf_below HBUF.out D1'.below hlt)
  rw [K2.out] at u2
  refine u2.mono ?_
  rintro e w2 ⟨rfl, hg2, hd2⟩
  have D2 : Hid (DM w w2 g o c L st2 t (.int .u64 (v1 : Int)) (.int .u64 0) (.int .u64 0) (.slice none 0 0) (.slice none 0 0) sy) := D1'.next hg2 hd2
  obtain ⟨q0, q1, q2, q3, q4, q5, q6, q7, q8, qf⟩ := nine_cells D2.out.msg
  clear u2 hg2 hd2 D1 D1'
  go_wp2_with fail
  clear q0 q1 q2 q3 q4 q5 q6 q7 q8 qf
  have D2' := D2.out.s4 (.int .u64 (v2 : Int))
  have u3 := uv_any _ _ _ _ _ L st2 _ D2'.dec (Nat.zero_le _) hnc (buf_below HBUF.out D2'.below hlt)
  rw [K3.out] at u3
  refine u3.mono ?_
  rintro e w3 ⟨rfl, hg3, hd3⟩
  have D3 : Hid (DM w w3 g o c L st3 t (.int .u64 (v1 : Int)) (.int .u64 (v2 : Int)) (.int .u64 0) (.slice none 0 0) (.slice none 0 0) sy) := D2'.next hg3 hd3
  obtain ⟨q0, q1, q2, q3, q4, q5, q6, q7, q8, qf⟩ := nine_cells D3.out.msg
  clear u3 hg3 hd3 D2 D2'
  go_wp2_with fail
  clear q0 q1 q2 q3 q4 q5 q6 q7 q8 qf
  have D3' := D3.out.s5 (.int .u64 (v3 : Int))
  have u4 := val_any _ _ _ _ _ L st3 _ D3'.dec (Nat.zero_le _) hnc (by omega) (buf_below HBUF.out D3'.below hlt)
  rw [K4.out] at u4
  refine u4.mono ?_
  rintro e w4 ⟨x5, rfl, hval, hg4, hd4⟩
  obtain ⟨va, vn, vc, hform⟩ := hval.form
  rw [hform] at hval
  rw [hform]
  clear hform
  have HVAL : Hid (ValIs g o x4 (.slice va vn vc)) := hval
  have D4 : Hid (DM w w4 g o c L st4 t (.int .u64 (v1 : Int)) (.int .u64 (v2 : Int)) (.int .u64 (v3 : Int)) (.slice none 0 0) (.slice none 0 0) sy) := D3'.next hg4 hd4
  obtain ⟨q0, q1, q2, q3, q4, q5, q6, q7, q8, qf⟩ := nine_cells D4.out.msg
  clear u4 hg4 hd4 D3 D3' hval
  go_wp2_with fail
  clear q0 q1 q2 q3 q4 q5 q6 q7 q8 qf
  have D4' := D4.out.s6 (.slice va vn vc)
  have u5 := uv_any _ _ _ _ _ L st4 _ D4'.dec (Nat.zero_le _) hnc (buf_below HBUF.out D4'.below hlt)
  rw [K5.out] at u5
  refine u5.mono ?_
  rintro e w5 ⟨rfl, hg5, hd5⟩
  have D5 : Hid (DM w w5 g o c L st5 t (.int .u64 (v1 : Int)) (.int .u64 (v2 : Int)) (.int .u64 (v3 : Int)) (.slice va vn vc) (.slice none 0 0) sy) := D4'.next hg5 hd5
  clear u5 hg5 hd5 D4 D4'
  subst hs5
  have hpl : L.length - p ≤ 1048576 := by omega
  have hfewI : ¬ ((((L.length - p : Nat) : Int) / 5) < (v5 : Int)) := by omega
  have hv5s : v5 ≤ 1048576 := by omega
  obtain ⟨df0, df1, dp, d1, dx, d0, dh⟩ := D5.out.dec
  obtain ⟨i0, hi, hz0, hz1, hz2⟩ := info_parts Tryf.info47
  obtain ⟨w6, hmk, hown, hgrow⟩ := run_make_full (P := Tryf.prog) (w := w5) w5.heap.size 33 47 i0 (.agg #[.int .i64 0, .int .u64 0, .int .u64 0, .int .u64 0, .slice none 0 0]) 5 Tryf.underlying33 hi hz0 hz1 .u64 .u64 v5 (by rw [hz2]; omega) (by unfold maxLen; omega) (Nat.le_refl _)
  have D6 : Hid (DM w w6 g o c L (some p) t (.int .u64 (v1 : Int)) (.int .u64 (v2 : Int)) (.int .u64 (v3 : Int)) (.slice va vn vc) (.slice none 0 0) sy) := D5.out.grown hgrow
  obtain ⟨q0, q1, q2, q3, q4, q5, q6, q7, q8, qf⟩ := nine_cells D6.out.msg
  have hE : w.heap.size + 1 + 1 < w5.heap.size := D5.out.size
  clear hi hz0 hz1 hz2 dh
  go_wp2_with fail
  clear q0 q1 q2 q3 q4 q5 q6 q7 q8 qf df0 df1 d1 d0 hmk
  have D7 : Hid (DM w (w6.setCell ⟨w.heap.size + 1 + 1, 7, none⟩ (.slice (some ⟨w5.heap.size, 0, none⟩) v5 v5)) g o c L (some p) t (.int .u64 (v1 : Int)) (.int .u64 (v2 : Int)) (.int .u64 (v3 : Int)) (.slice va vn vc) (.slice (some ⟨w5.heap.size, 0, none⟩) v5 v5) sy) := D6.out.s7 _
  have B7 : Hid (EB w (w6.setCell ⟨w.heap.size + 1 + 1, 7, none⟩ (.slice (some ⟨w5.heap.size, 0, none⟩) v5 v5)) g o c L p w5.heap.size v5 0 (some p)) := eb_start hown hv50 (by omega)
  clear hown hgrow D6 D5
  have hpL : p ≤ L.length := dp
  generalize hE5 : w5.heap.size = E at *
  clear hE5
  go_loopw [72] (fun i wr => ∃ (j : Nat) (st : Option Nat), j ≤ v5 ∧ i = .int .i64 (j : Int) ∧ DM w wr g o c L st t (.int .u64 (v1 : Int)) (.int .u64 (v2 : Int)) (.int .u64 (v3 : Int)) (.slice va vn vc) (.slice (some ⟨E, 0, none⟩) v5 v5) sy ∧ EB w wr g o c L p E v5 j st) (fun i _ => v5 - (RowKit.intOf i).toNat)
  case atStart => exact ⟨0, some p, Nat.zero_le _, rfl, D7.out, B7.out⟩
  case round =>
    obtain ⟨j, st, hj, rfl, hDM, hEB⟩ := hrel
    have DR : Hid (DM w wr g o c L st t (.int .u64 (v1 : Int)) (.int .u64 (v2 : Int)) (.int .u64 (v3 : Int)) (.slice va vn vc) (.slice (some ⟨E, 0, none⟩) v5 v5) sy) := hDM
    have BR : Hid (EB w wr g o c L p E v5 j st) := hEB
    clear hDM hEB D7 B7
    by_cases hjv : j < v5
    · obtain ⟨q0, q1, q2, q3, q4, q5, q6, q7, q8, qf⟩ := nine_cells DR.out.msg
      obtain ⟨⟨⟨ia, ib⟩, sA⟩, kA⟩ : ∃ r, stInst L st = r := ⟨_, rfl⟩
      obtain ⟨⟨vb, sB⟩, kB⟩ : ∃ r, stVar L sA = r := ⟨_, rfl⟩
      obtain ⟨⟨vq, sC⟩, kC⟩ : ∃ r, stVar L sB = r := ⟨_, rfl⟩
      obtain ⟨⟨xv, sD⟩, kD⟩ : ∃ r, stVal L sC = r := ⟨_, rfl⟩
      have KA : Hid (stInst L st = ((ia, ib), sA)) := kA
      have KB : Hid (stVar L sA = (vb, sB)) := kB
      have KC : Hid (stVar L sB = (vq, sC)) := kC
      have KD : Hid (stVal L sC = (xv, sD)) := kD
      clear kA kB kC kD
      go_wp2_with fail
      clear q0 q1 q2 q3 q4 q5 q6 q7 q8 qf
      have uA := inst_any _ _ _ _ _ L st wr DR.out.dec (Nat.zero_le _) hnc (buf_below HBUF.out DR.out.below hlt) (by omega)
      rw [KA.out] at uA
      refine uA.mono ?_
      rintro e wA ⟨rfl, hgA, hdA⟩
      have DA : Hid (DM w wA g o c L sA t (.int .u64 (v1 : Int)) (.int .u64 (v2 : Int)) (.int .u64 (v3 : Int)) (.slice va vn vc) (.slice (some ⟨E, 0, none⟩) v5 v5) sy) := DR.out.next hgA hdA
      have BA : Hid (EB w wA g o c L p E v5 j st) := eb_next BR.out hgA (by omega)
      clear uA hgA hdA DR BR
      obtain ⟨⟨z0, c0⟩, f0⟩ := eb_cell BA.out (j * 5) (by omega)
      obtain ⟨⟨z1, c1⟩, f1⟩ := eb_cell BA.out (j * 5 + 1) (by omega)
      go_wp2_with fail
      clear z0 z1 c0 c1 f0 f1
      have PA1 := pb_store (k := j * 5) (v := .int .i64 (ia : Int)) (pb_start BA.out) hpL (by simp) (by omega) (by simp)
      have DA1 := DA.out.other E (j * 5) (.int .i64 (ia : Int)) hE BA.out.ns
      have PA2 := pb_store (k := j * 5 + 1) (v := .int .u64 (ib : Int)) PA1 hpL (by simp) (by omega) (by simp)
      have DA2 := DA1.other E (j * 5 + 1) (.int .u64 (ib : Int)) hE PA1.eb.ns
      have uB := uv_any _ _ _ _ _ L sA _ DA2.dec (Nat.zero_le _) hnc (buf_below HBUF.out DA2.below hlt)
      rw [KB.out] at uB
      refine uB.mono ?_
      rintro e wB ⟨rfl, hgB, hdB⟩
      have DB : Hid (DM w wB g o c L sB t (.int .u64 (v1 : Int)) (.int .u64 (v2 : Int)) (.int .u64 (v3 : Int)) (.slice va vn vc) (.slice (some ⟨E, 0, none⟩) v5 v5) sy) := DA2.next hgB hdB
      have BB : Hid (PB w wB g o c L p E v5 j st ([] ++ [.int .i64 (ia : Int)] ++ [.int .u64 (ib : Int)])) := pb_next PA2 hgB (by omega)
      clear uB hgB hdB DA DA1 DA2 BA PA1 PA2
      obtain ⟨⟨z0, c0⟩, f0⟩ := eb_cell BB.out.eb (j * 5 + 2) (by omega)
      go_wp2_with fail
      clear z0 c0 f0
      have PB2 := pb_store (k := j * 5 + 2) (v := .int .u64 (vb : Int)) BB.out hpL (by simp) (by omega) (by simp)
      have DB2 := DB.out.other E (j * 5 + 2) (.int .u64 (vb : Int)) hE BB.out.eb.ns
      have uC := uv_any _ _ _ _ _ L sB _ DB2.dec (Nat.zero_le _) hnc (buf_below HBUF.out DB2.below hlt)
      rw [KC.out] at uC
      refine uC.mono ?_
      rintro e wC ⟨rfl, hgC, hdC⟩
      have DC : Hid (DM w wC g o c L sC t (.int .u64 (v1 : Int)) (.int .u64 (v2 : Int)) (.int .u64 (v3 : Int)) (.slice va vn vc) (.slice (some ⟨E, 0, none⟩) v5 v5) sy) := DB2.next hgC hdC
      have BC : Hid (PB w wC g o c L p E v5 j st ([] ++ [.int .i64 (ia : Int)] ++ [.int .u64 (ib : Int)] ++ [.int .u64 (vb : Int)])) := pb_next PB2 hgC (by omega)
      clear uC hgC hdC DB DB2 BB PB2
      obtain ⟨⟨z0, c0⟩, f0⟩ := eb_cell BC.out.eb (j * 5 + 3) (by omega)
      go_wp2_with fail
      clear z0 c0 f0
      have PC2 := pb_store (k := j * 5 + 3) (v := .int .u64 (vq : Int)) BC.out hpL (by simp) (by omega) (by simp)
      have DC2 := DC.out.other E (j * 5 + 3) (.int .u64 (vq : Int)) hE BC.out.eb.ns
      have uD := val_any _ _ _ _ _ L sC _ DC2.dec (Nat.zero_le _) hnc (by omega) (buf_below HBUF.out DC2.below hlt)
      rw [KD.out] at uD
      refine uD.mono ?_
      rintro e wD ⟨x6, rfl, hval, hgD, hdD⟩
      obtain ⟨xa, xn, xc, hform⟩ := hval.form
      rw [hform] at hval
      rw [hform]
      clear hform
      have HVD : Hid (ValIs g o xv (.slice xa xn xc)) := hval
      have DD : Hid (DM w wD g o c L sD t (.int .u64 (v1 : Int)) (.int .u64 (v2 : Int)) (.int .u64 (v3 : Int)) (.slice va vn vc) (.slice (some ⟨E, 0, none⟩) v5 v5) sy) := DC2.next hgD hdD
      have BD : Hid (PB w wD g o c L p E v5 j st ([] ++ [.int .i64 (ia : Int)] ++ [.int .u64 (ib : Int)] ++ [.int .u64 (vb : Int)] ++ [.int .u64 (vq : Int)])) := pb_next PC2 hgD (by omega)
      clear uD hgD hdD DC DC2 BC PC2 hval
      obtain ⟨⟨z0, c0⟩, f0⟩ := eb_cell BD.out.eb (j * 5 + 4) (by omega)
      go_wp2_with fail
      clear z0 c0 f0
      go_roundw
      case rel =>
        have PD2 := pb_store (k := j * 5 + 4) (v := .slice xa xn xc) BD.out hpL (by simp) (by omega) (by simp)
        have DD2 := DD.out.other E (j * 5 + 4) (.slice xa xn xc) hE BD.out.eb.ns
        refine ⟨j + 1, sD, by omega, by simp, DD2, ?_⟩
        exact eb_round PD2.eb hpL KA.out KB.out KC.out KD.out (PD2.cells 0 (by simp)) (PD2.cells 1 (by simp)) (PD2.cells 2 (by simp)) (PD2.cells 3 (by simp)) (PD2.cells 4 (by simp)) HVD.out
      case measure => simp [RowKit.intOf]; omega
    · have hje : j = v5 := by omega
      subst hje
      cases st with
      | none =>
        have hno : ∀ es, rEnts L p j ≠ some (es, L.length) := by
          have := BR.out.ents
          intro es h
          rw [this] at h
          cases h
        have HNO : Hid (∀ es, rEnts L p j ≠ some (es, L.length)) := hno
        clear hno
        obtain ⟨q0, q1, q2, q3, q4, q5, q6, q7, q8, qf⟩ := nine_cells DR.out.msg
        obtain ⟨df0, df1, ⟨da, dn, dc, d0⟩, y, sE, d1, hy, _⟩ := DR.out.dec
        have hRM := DR.out.size
        have hyl : y < wr.heap.size := block_lt_of_cell hy
        go_wp2_with fail
        refine (errf2 F wr.heap.size t ⟨y, 0, none⟩ sE _ ?_ ?_ ?_ ?_).mono ?_
        · show F.answers wr.tape
          rw [DR.out.below.tape]; exact hF
        · simp
        · simp
        · rw [cell_alloc _ _ _ _ hyl]; exact hy
        rintro e wz ⟨T, p, rfl, hbz⟩
        have hR : wz.heap[w.heap.size]? = some (.cells zeroMsg 35 (0, 0)) := by
          rw [hbz.block w.heap.size (by simp; omega), Below.heap_alloc _ _ _ (by omega)]
          exact DR.out.res
        have HB : Hid (Below w.heap.size w wz) := (DR.out.below.alloc (by omega) _).trans (hbz.mono (by simp; omega))
        have HR : Hid (wz.heap[w.heap.size]? = some (.cells zeroMsg 35 (0, 0))) := hR
        clear q0 q1 q2 q3 q4 q5 q6 q7 q8 qf d0 d1 df0 df1 hy
        obtain ⟨q0, q1, q2, q3, q4, q5, q6, q7, q8, qf⟩ := nine_cells hR
        clear hbz hR
        go_wp2_with fail
        refine bodyPost_ret (res9z _ w.heap.size _ _ rfl rfl (set9_heap wz w.heap.size _ _ _ _ _ _ _ _ _ _ _ _ _ _ _ _ _ _ HR.out)) rfl ?_
        exact ⟨fun es h => absurd h (HNO.out es), fun _ => ⟨T, p, rfl, set9_below w.heap.size _ _ _ _ _ _ _ _ _ HB.out (Nat.le_refl _)⟩⟩
      | some q =>
        obtain ⟨es, e1, e2⟩ := BR.out.ents
        obtain ⟨hq1, hq2, hq3⟩ := rEnts_some hpL e1
        have E1 : Hid (rEnts L p j = some (es, q)) := e1
        have E2 : Hid (∀ i (h : i < es.length), EntAt wr g o E i es[i]) := e2
        clear e1 e2
        by_cases hql : q = L.length
        · subst hql
          have hpl' : L.length - L.length = 0 := by omega
          obtain ⟨df0, df1, dp, d1, dx, d0, dh⟩ := DR.out.dec
          rw [hpl'] at d0
          obtain ⟨q0, q1, q2, q3, q4, q5, q6, q7, q8, qf⟩ := nine_cells DR.out.msg
          obtain ⟨r0, r1, r2, r3, r4, r5, r6, r7, r8, rf⟩ := nine_cells DR.out.res
          clear dh hpl'
          go_wp2_with fail
          refine bodyPost_ret (res9 _ w.heap.size _ _ _ _ _ _ _ _ _ _ _ rfl rfl (set9_heap wr w.heap.size (.int .u8 (t : Int)) (.int .i64 0) (.int .i64 0) (.int .u64 (v1 : Int)) (.int .u64 (v2 : Int)) (.int .u64 (v3 : Int)) (.slice va vn vc) (.slice (some ⟨E, 0, none⟩) j j) (.bool sy) _ _ _ _ _ _ _ _ _ DR.out.res)) rfl ?_
          refine ⟨fun es' h => ?_, fun h => absurd E1.out (h es)⟩
          obtain rfl : es = es' := (Prod.mk.inj (Option.some.inj (E1.out.symm.trans h))).1
          refine ⟨va, vn, vc, some ⟨E, 0, none⟩, j, j, rfl, HVAL.out, ?_, set9_below w.heap.size _ _ _ _ _ _ _ _ _ DR.out.below (Nat.le_refl _)⟩
          have hent : ∀ i (h : i < es.length), EntAt (set9 wr w.heap.size (.int .u8 (t : Int)) (.int .i64 0) (.int .i64 0) (.int .u64 (v1 : Int)) (.int .u64 (v2 : Int)) (.int .u64 (v3 : Int)) (.slice va vn vc) (.slice (some ⟨E, 0, none⟩) j j) (.bool sy)) g o E i es[i] := fun i h => entAt_of (set9_other wr w.heap.size E _ _ _ _ _ _ _ _ _ (by omega)) (E2.out i h)
          exact entsIs_mk hq3 hv50 (by omega) hent
        · have hno : ∀ es', rEnts L p j ≠ some (es', L.length) := fun es' h => hql (Prod.mk.inj (Option.some.inj (E1.out.symm.trans h))).2
          have HNO : Hid (∀ es, rEnts L p j ≠ some (es, L.length)) := hno
          clear hno
          have hpl' : L.length - q ≤ 1048576 := by omega
          have hpl0 : 0 < L.length - q := by omega
          obtain ⟨df0, df1, dp, d1, dx, d0, dh⟩ := DR.out.dec
          clear dh
          go_wp2_with fail
          refine (fail_any _ _ _ _ _ L (some q) _ wr DR.out.dec (Nat.zero_le _)).mono ?_
          rintro e ws ⟨rfl, hgf, hdf⟩
          have DS : Hid (DM w ws g o c L none t (.int .u64 (v1 : Int)) (.int .u64 (v2 : Int)) (.int .u64 (v3 : Int)) (.slice va vn vc) (.slice (some ⟨E, 0, none⟩) j j) sy) := DR.out.next hgf hdf
          clear df0 df1 d1 d0 hgf hdf DR
          obtain ⟨q0, q1, q2, q3, q4, q5, q6, q7, q8, qf⟩ := nine_cells DS.out.msg
          obtain ⟨df0, df1, ⟨da, dn, dc, d0⟩, y, sE, d1, hy, _⟩ := DS.out.dec
          have hRM := DS.out.size
          have hyl : y < ws.heap.size := block_lt_of_cell hy
          go_wp2_with fail
          refine (errf2 F ws.heap.size t ⟨y, 0, none⟩ sE _ ?_ ?_ ?_ ?_).mono ?_
          · show F.answers ws.tape
            rw [DS.out.below.tape]; exact hF
          · simp
          · simp
          · rw [cell_alloc _ _ _ _ hyl]; exact hy
          rintro e wz ⟨T, p, rfl, hbz⟩
          have hR : wz.heap[w.heap.size]? = some (.cells zeroMsg 35 (0, 0)) := by
            rw [hbz.block w.heap.size (by simp; omega), Below.heap_alloc _ _ _ (by omega)]
            exact DS.out.res
          have HB : Hid (Below w.heap.size w wz) := (DS.out.below.alloc (by omega) _).trans (hbz.mono (by simp; omega))
          have HR : Hid (wz.heap[w.heap.size]? = some (.cells zeroMsg 35 (0, 0))) := hR
          clear q0 q1 q2 q3 q4 q5 q6 q7 q8 qf d0 d1 df0 df1 hy
          obtain ⟨q0, q1, q2, q3, q4, q5, q6, q7, q8, qf⟩ := nine_cells hR
          clear hbz hR
          go_wp2_with fail
          refine bodyPost_ret (res9z _ w.heap.size _ _ rfl rfl (set9_heap wz w.heap.size _ _ _ _ _ _ _ _ _ _ _ _ _ _ _ _ _ _ HR.out)) rfl ?_
          exact ⟨fun es h => absurd h (HNO.out es), fun _ => ⟨T, p, rfl, set9_below w.heap.size _ _ _ _ _ _ _ _ _ HB.out (Nat.le_refl _)⟩⟩
end Go.Proofs.Qxb6616623aFmt
