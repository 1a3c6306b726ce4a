/-
  The walk of FnDecodeMessageIsPrefixFree.
-/
import Derived.Test.Qxb6616623aFmtClone
import Derived.Test.Qxb6616623aFmtPre
import Derived.Deep.QuietTactic
import Derived.BigQuiet
namespace Go.Proofs.Qxb6616623aFmt
open Go.RowKit Go.Lib Go.Shelf
open Go.Stop (Interp)
set_option linter.unusedVariables false

theorem zz12_any (a : Option Addr) (n cap : Nat) (i : Int) (w : World) (hn : n ≤ maxLen) :
    Calls Tryf.prog 12 #[.slice a n cap, .int .i64 i] w fun e w' => e = .returned (.bool (decide (n ≤ 1048576))) ∧ w = w' := by
  unfold maxLen at hn
  by_cases h : n ≤ 1048576
  · have hd : decide (n ≤ 1048576) = true := by simpa using h
    rw [hd]
    go_enter Tryf.func12, Tryf.ntmps12
    go_wp2
    go_ret
    exact ⟨rfl, rfl⟩
  · have hd : decide (n ≤ 1048576) = false := by simpa using h
    rw [hd]
    go_enter Tryf.func12, Tryf.ntmps12
    go_wp2
    go_ret
    exact ⟨rfl, rfl⟩

theorem drewN_below (B : Nat) (w : World) (n : Nat) : Below B w (w.drewN n) := ⟨rfl, rfl, rfl, Nat.le_refl _, fun _ _ => rfl⟩

def Four (w : World) (e : Ending) (w' : World) : Prop := e = .returned (.bool true) ∧ Below w.heap.size w w'

set_option maxHeartbeats 1000000 in
theorem law4_big (a : Option Addr) (n cap : Nat) (i : Int) (w : World) (hn : n ≤ maxLen) (hB : ¬ n ≤ 1048576) :
    Calls Tryf.prog 4 #[.slice a n cap, .int .i64 i] w (Four w) := by
  have hz := fun (W : World) => zz12_any a n cap i W hn
  have hd : decide (n ≤ 1048576) = false := by simpa using hB
  simp only [hd] at hz
  go_enter Tryf.func4, Tryf.ntmps4
  go_wp2_with fail
  refine (hz _).mono ?_
  rintro e w' ⟨rfl, rfl⟩
  go_wp2_with fail
  go_ret
  exact ⟨rfl, Below.refl _ _⟩

set_option maxHeartbeats 1000000 in
theorem law4_neg (a : Option Addr) (n cap : Nat) (i : Int) (w : World) (hB : n ≤ 1048576) (hi : i < 0) :
    Calls Tryf.prog 4 #[.slice a n cap, .int .i64 i] w (Four w) := by
  have hz := fun (W : World) => zz12_any a n cap i W (by unfold maxLen; omega)
  have hd : decide (n ≤ 1048576) = true := by simpa using hB
  simp only [hd] at hz
  have hB' : ¬ (1048576 : Int) < (n : Int) := by omega
  go_enter Tryf.func4, Tryf.ntmps4
  go_wp2_with fail
  refine (hz _).mono ?_
  rintro e w' ⟨rfl, rfl⟩
  go_wp2_with fail
  go_ret
  exact ⟨rfl, Below.refl _ _⟩

set_option maxHeartbeats 1000000 in
theorem law4_over (a : Option Addr) (n cap : Nat) (i : Int) (w : World) (hB : n ≤ 1048576) (hi0 : ¬ i < 0) (hi : (n : Int) ≤ i) :
    Calls Tryf.prog 4 #[.slice a n cap, .int .i64 i] w (Four w) := by
  have hz := fun (W : World) => zz12_any a n cap i W (by unfold maxLen; omega)
  have hd : decide (n ≤ 1048576) = true := by simpa using hB
  simp only [hd] at hz
  have hB' : ¬ (1048576 : Int) < (n : Int) := by omega
  go_enter Tryf.func4, Tryf.ntmps4
  go_wp2_with fail
  refine (hz _).mono ?_
  rintro e w' ⟨rfl, rfl⟩
  go_wp2_with fail
  go_ret
  exact ⟨rfl, Below.refl _ _⟩

theorem buf_bts {w : World} {g o : Nat} {L : List UInt8} (h : BufAt w g o L) : Bts w g o L.length (fun j => (L.getD j 0).toNat) := by
  intro j hj
  show _ = some (Value.int .u8 (((L.getD j 0).toNat : Nat) : Int))
  rw [h j hj, List.getD_eq_getElem?_getD, List.getElem?_eq_getElem hj, Option.getD_some]
theorem bts_buf {w : World} {g o : Nat} {L : List UInt8} (h : Bts w g o L.length (fun j => (L.getD j 0).toNat)) : BufAt w g o L := by
  intro j hj
  have := h j hj
  simp only [List.getD_eq_getElem?_getD, List.getElem?_eq_getElem hj, Option.getD_some] at this
  exact this
theorem buf_take {w : World} {g o : Nat} {L : List UInt8} (h : BufAt w g o L) (i : Nat) : BufAt w g o (L.take i) := by
  intro j hj
  rw [List.length_take] at hj
  rw [h j (by omega), List.getElem_take]

set_option maxRecDepth 100000 in
theorem bit3 : ∀ b : Fin 256, bits .and .u8 (b.val : Int) 127 = ((b.val % 128 : Nat) : Int) := by decide

/-- DecodeMessage on the first i bytes. -/
theorem msg_cut (F : Interp) (g c : Nat) (L : List UInt8) (i : Nat) (w : World) (hF : F.answers w.tape) (hi : i ≤ L.length) (hic : L.length ≤ c) (hc9 : c ≤ 1048576) (hbuf : BufAt w g 0 L) :
    Calls Tryf.prog 9 #[.slice (some ⟨g, 0, none⟩) i c] w (MsgPost w g 0 (L.take i)) := by
  have hl : (L.take i).length = i := by rw [List.length_take]; omega
  by_cases h0 : i = 0
  · subst h0
    refine (msg_empty (some ⟨g, 0, none⟩) c w).mono ?_
    intro e w' h
    exact ⟨fun _ => h, fun m hm => by rw [List.take_zero] at hm; cases hm⟩
  · have := msg_any F g 0 c (L.take i) w hF (by omega) (by omega) hc9 (buf_take hbuf i)
    rw [hl] at this
    exact this

set_option maxHeartbeats 2000000 in
theorem law4_main (F : Interp) (b off cap : Nat) (L : List UInt8) (i : Nat) (w : World) (hF : F.answers w.tape) (hB : L.length ≤ 1048576) (hi : i < L.length) (hc : BufAt w b off L) :
    Calls Tryf.prog 4 #[.slice (some ⟨b, off, none⟩) L.length cap, .int .i64 (i : Int)] w (Four w) := by
  have hz := fun (W : World) => zz12_any (some ⟨b, off, none⟩) L.length cap i W (by unfold maxLen; omega)
  have hd : decide (L.length ≤ 1048576) = true := by simpa using hB
  simp only [hd] at hz
  have hB' : ¬ (1048576 : Int) < (L.length : Int) := by omega
  have hi0 : ¬ (i : Int) < 0 := by omega
  have hiI : ¬ (L.length : Int) ≤ (i : Int) := by omega
  go_enter Tryf.func4, Tryf.ntmps4
  go_wp2_with fail
  refine (hz _).mono ?_
  rintro e w' ⟨rfl, rfl⟩
  go_wp2_with fail
  have hbl : b < w.heap.size := block_lt_of_cell (hc 0 (by omega))
  refine (clone_any b off L.length cap (fun j => (L.getD j 0).toNat) w hB hbl (buf_bts hc)).mono ?_
  rintro e w1 ⟨g, rfl, hg, hg1, hb1, hbts⟩
  have HBUF : Hid (BufAt w1 g 0 L) := bts_buf hbts
  have HB1 : Hid (Below w.heap.size w w1) := hb1
  clear hbts hb1 hc hz
  go_wp2_with fail
  refine (msg_any F g 0 L.length L w1 ?_ (by omega) (Nat.le_refl _) hB HBUF.out).mono ?_
  · rw [HB1.out.tape]; exact hF
  intro e w2 hp
  cases hd1 : decodeM L with
  | none =>
    obtain ⟨T, p, rfl, hb2⟩ := hp.1 hd1
    have HB2 : Hid (Below w1.heap.size w1 w2) := hb2
    clear hp hb2
    simp only [zeroMsg]
    go_wp2_with fail
    have hb3 : Below w1.heap.size w1 (w2.alloc (.cells zeroMsg 35)) := HB2.out.alloc HB2.out.size _
    refine (msg_cut F g L.length L i _ ?_ (by omega) (Nat.le_refl _) hB (buf_below HBUF.out hb3 hg1)).mono ?_
    · show F.answers w2.tape
      rw [HB2.out.tape, HB1.out.tape]; exact hF
    intro e w3 hp
    have hws : w.heap.size ≤ w1.heap.size := HB1.out.size
    have hs3 : w1.heap.size ≤ (w2.alloc (.cells zeroMsg 35)).heap.size := by have := HB2.out.size; simp; omega
    cases hd2 : decodeM (L.take i) with
    | none =>
      obtain ⟨T2, p2, rfl, hb4⟩ := hp.1 hd2
      have HB3 : Hid (Below w.heap.size w w3) := HB1.out.trans ((hb3.trans (hb4.mono hs3)).mono hws)
      clear hp hb4 hb3
      simp only [zeroMsg]
      go_wp2_with fail
      go_ret
      exact ⟨rfl, HB3.out.alloc HB3.out.size _⟩
    | some m2 =>
      obtain ⟨va, vn, vc, ea, en, ec, rfl, hv, hes, hb4⟩ := hp.2 m2 hd2
      have HB3 : Hid (Below w.heap.size w w3) := HB1.out.trans ((hb3.trans (hb4.mono hs3)).mono hws)
      clear hp hb4 hb3 hv hes
      go_wp2_with fail
      go_ret
      exact ⟨rfl, HB3.out.alloc HB3.out.size _⟩
  | some m =>
    obtain ⟨va, vn, vc, ea, en, ec, rfl, hv, hes, hb2⟩ := hp.2 m hd1
    have HB2 : Hid (Below w1.heap.size w1 w2) := hb2
    clear hp hb2 hv hes
    go_wp2_with fail
    obtain ⟨MC, hMC⟩ : ∃ MC : Array Value, MC = #[.int .u8 (m.typ : Int), .int .i64 0, .int .i64 0, .int .u64 (m.tag : Int), .int .u64 (m.place : Int), .int .u64 (m.ballot : Int), .slice va vn vc, .slice ea en ec, .bool m.synced] := ⟨_, rfl⟩
    have hb3 : Below w1.heap.size w1 (w2.alloc (.cells MC 35)) := HB2.out.alloc HB2.out.size _
    rw [← hMC]
    refine (msg_cut F g L.length L i _ ?_ (by omega) (Nat.le_refl _) hB (buf_below HBUF.out hb3 hg1)).mono ?_
    · show F.answers w2.tape
      rw [HB2.out.tape, HB1.out.tape]; exact hF
    intro e w3 hp
    have hws : w.heap.size ≤ w1.heap.size := HB1.out.size
    have hs3 : w1.heap.size ≤ (w2.alloc (.cells MC 35)).heap.size := by have := HB2.out.size; simp; omega
    have hd2 : decodeM (L.take i) = none := by
      cases hd2 : decodeM (L.take i) with
      | none => rfl
      | some m2 =>
        exfalso
        refine prefix_free (A := L.take i) (R := L.drop i) ?_ (by rw [List.take_append_drop]; exact hd1) hd2
        intro hnil
        have := congrArg List.length hnil
        rw [List.length_drop] at this
        simp at this
        omega
    obtain ⟨T2, p2, rfl, hb4⟩ := hp.1 hd2
    have HB3 : Hid (Below w.heap.size w w3) := HB1.out.trans ((hb3.trans (hb4.mono hs3)).mono hws)
    have hw2s : w1.heap.size ≤ w2.heap.size := HB2.out.size
    have hM3 : (w3.alloc (.cells zeroMsg 35)).heap[w2.heap.size]? = some (.cells MC 35 (0, 0)) := by
      have h4 := hb4.size
      simp at h4
      rw [Below.heap_alloc _ _ _ (by omega), hb4.block w2.heap.size (by simp)]
      exact heap_alloc_new w2 _
    have hbuf3 : BufAt (w3.alloc (.cells zeroMsg 35)) g 0 L := buf_below HBUF.out ((hb3.trans (hb4.mono hs3)).alloc (by have := hb4.size; omega) _) hg1
    obtain ⟨q0, q1, q2, q3, q4, q5, q6, q7, q8, qf⟩ := nine_cells (hMC ▸ hM3)
    clear q1 q2 q3 q4 q5 q6 q7 qf hM3
    have hbyte := hbuf3 0 (by omega)
    rw [Nat.add_zero] at hbyte
    obtain ⟨b0, r0, _, _, _, _, _, _, _, hLe, _, _, _, hme⟩ := decodeM_parts hd1
    have hb0 : L[0] = b0 := by subst hLe; rfl
    rw [hb0] at hbyte
    have hty : m.typ = b0.toNat % 128 := by rw [hme]
    have hsy : m.synced = decide (128 ≤ b0.toNat) := by rw [hme]
    have hbit3 := bit3 ⟨b0.toNat, b0.toNat_lt⟩
    simp only at hbit3
    rw [← hty] at hbit3
    clear hme hp hb4 hb3 hbuf3 hLe hMC
    simp only [zeroMsg] at q0 q8 hbyte ⊢
    have hnI : (0 : Int) < (L.length : Int) := by omega
    have hsyI : decide ((128 : Int) ≤ (b0.toNat : Int)) = m.synced := by rw [hsy]; exact decide_eq_decide.2 (by omega)
    go_wp2_with fail
    go_quiet (fail)
    go_wp2_with fail
    go_ret
    exact ⟨rfl, (HB3.out.alloc HB3.out.size _).trans (drewN_below _ _ _)⟩
end Go.Proofs.Qxb6616623aFmt
