/-
  The walk of FnDecodeMessageMeetsWireGrammar: the law's body.
-/
import Derived.Test.Qxb6616623aFmtLaw3
namespace Go.Proofs.Qxb6616623aFmt
open Go.RowKit Go.Lib Go.Shelf
open Go.Stop (Interp)
set_option linter.unusedVariables false

theorem buf_bts3 {w : World} {g o : Nat} {L : List UInt8} (h : BufAt w g o L) : Bts w g o L.length (fun j => (L.getD j 0).toNat) := by
  intro j hj
  show _ = some (Value.int .u8 (((L.getD j 0).toNat : Nat) : Int))
  rw [h j hj, List.getD_eq_getElem?_getD, List.getElem?_eq_getElem hj, Option.getD_some]
theorem bts_buf3 {w : World} {g o : Nat} {L : List UInt8} (h : Bts w g o L.length (fun j => (L.getD j 0).toNat)) : BufAt w g o L := by
  intro j hj
  have := h j hj
  simp only [List.getD_eq_getElem?_getD, List.getElem?_eq_getElem hj, Option.getD_some] at this
  exact this

theorem entsIs_below {w w' : World} {g o B : Nat} {es : List Ent} {x : Value} (h : EntsIs w g o B es x) (hb : Below w.heap.size w w') : EntsIs w' g o B es x := by
  cases es with
  | nil => exact h
  | cons e r =>
    obtain ⟨E, hx, hB, he⟩ := h
    have hEl : E < w.heap.size := block_lt_of_cell (he 0 (by simp)).1
    exact ⟨E, hx, hB, fun i hi => entAt_of (fun k => hb.cell (p := ⟨E, k, none⟩) hEl) (he i hi)⟩

theorem wents_below {w w' : World} {N B : Nat} {es : List Ent} {x : Value} (h : WEnts N w B es x) (hb : Below w.heap.size w w') : WEnts N w' B es x := by
  obtain ⟨xs, how, he⟩ := h
  exact ⟨xs, owns_below how hb, he⟩

theorem rHead_le {L : List UInt8} {y : Nat × Nat × Nat × Option (Nat × Nat) × Nat} {p : Nat} (h : rHead L = some (y, p)) : p ≤ L.length := by
  unfold rHead at h
  cases h1 : rVar L 1 with
  | none => rw [h1] at h; cases h
  | some y1 =>
    obtain ⟨s, p1⟩ := y1
    rw [h1] at h
    simp only at h
    cases h2 : rVar L p1 with
    | none => rw [h2] at h; cases h
    | some y2 =>
      obtain ⟨x, p2⟩ := y2
      rw [h2] at h
      simp only at h
      cases h3 : rVar L p2 with
      | none => rw [h3] at h; cases h
      | some y3 =>
        obtain ⟨b, p3⟩ := y3
        rw [h3] at h
        simp only at h
        cases h4 : rVal L p3 with
        | none => rw [h4] at h; cases h
        | some y4 =>
          obtain ⟨a, p4⟩ := y4
          rw [h4] at h
          simp only at h
          cases h5 : rVar L p4 with
          | none => rw [h5] at h; cases h
          | some y5 =>
            obtain ⟨v, p5⟩ := y5
            rw [h5] at h
            simp only [Option.some.injEq, Prod.mk.injEq] at h
            have := (rVar_some h5).2.1
            omega

theorem ents_few {L : List UInt8} {m : Msg} (h : decodeM L = some m) : m.ents.length ≤ L.length := by
  obtain ⟨b, r, v1, v2, v3, x4, v5, p, es, _, _, hh, he, hm⟩ := decodeM_parts h
  have := rEnts_some (rHead_le hh) he
  rw [hm]
  show es.length ≤ L.length
  omega

set_option maxHeartbeats 2000000 in
theorem law3_empty (a0 : Option Addr) (c0 : Nat) (w : World) (hcl : Calls Tryf.prog 7 #[.slice a0 0 c0] w fun e w' => (∃ a c, e = .returned (.slice a 0 c)) ∧ Below w.heap.size w w') :
    Calls Tryf.prog 3 #[.slice a0 0 c0] w (Yes w) := by
  have hz := fun (W : World) => zz6_any a0 0 c0 W (by unfold maxLen; omega)
  simp only [Nat.zero_le, decide_true] at hz
  go_enter Tryf.func3, Tryf.ntmps3
  go_wp2_with fail
  refine (hz _).mono ?_
  rintro e w' ⟨rfl, rfl⟩
  go_wp2_with fail
  refine hcl.mono ?_
  rintro e w1 ⟨⟨a, c, rfl⟩, hb1⟩
  have HB1 : Hid (Below w.heap.size w w1) := hb1
  clear hcl hz hb1
  go_wp2_with fail
  refine (parse_empty a c w1).mono ?_
  rintro e w2 ⟨⟨t, v1, v2, v3, st, ln, sy, has, ea, en, ec, rfl⟩, hb2⟩
  have HB2 : Hid (Below w.heap.size w w2) := HB1.out.trans (hb2.mono HB1.out.size)
  clear hb2
  go_wp2_with fail
  obtain ⟨o1, ho1⟩ : ∃ o1 : Array Value, o1 = #[.int .u8 t, .bool sy, .int .u64 v1, .int .u64 v2, .int .u64 v3, .bool has, .int .i64 st, .int .i64 ln, .slice ea en ec] := ⟨_, rfl⟩
  rw [← ho1]
  refine (msg_empty a c _).mono ?_
  rintro e w3 ⟨T, q, rfl, hb3⟩
  have HB3 : Hid (Below w.heap.size w w3) := (HB2.out.alloc HB2.out.size _).trans (hb3.mono (by have := HB2.out.size; simp; omega))
  clear hb3 ho1
  simp only [zeroMsg]
  go_wp2_with fail
  refine (zero_yes _).mono ?_
  rintro e w4 ⟨rfl, hb4⟩
  have hb5 : Below w.heap.size w (w3.alloc (.cells zeroMsg 35)) := HB3.out.alloc HB3.out.size _
  have HB4 : Hid (Below w.heap.size w w4) := hb5.trans (hb4.mono hb5.size)
  clear hb4 hb5
  go_wp2_with fail
  go_ret
  exact ⟨rfl, HB4.out⟩

set_option maxHeartbeats 2000000 in
theorem law3_main (F : Interp) (b off cap : Nat) (L : List UInt8) (w : World) (hF : F.answers w.tape) (hB : L.length ≤ 1048576) (hn : 0 < L.length) (hc : BufAt w b off L) :
    Calls Tryf.prog 3 #[.slice (some ⟨b, off, none⟩) L.length cap] w (Yes w) := by
  have hz := fun (W : World) => zz6_any (some ⟨b, off, none⟩) L.length cap W (by unfold maxLen; omega)
  have hd : decide (L.length ≤ 1048576) = true := by simpa using hB
  simp only [hd] at hz
  have hB' : ¬ (1048576 : Int) < (L.length : Int) := by omega
  go_enter Tryf.func3, Tryf.ntmps3
  go_wp2_with fail
  refine (hz _).mono ?_
  rintro e w' ⟨rfl, rfl⟩
  go_wp2_with fail
  have hbl : b < w.heap.size := block_lt_of_cell (hc 0 (by omega))
  refine (clone_any b off L.length cap (fun j => (L.getD j 0).toNat) w hB hbl (buf_bts3 hc)).mono ?_
  rintro e w1 ⟨g, rfl, hg, hg1, hb1, hbts⟩
  have HBUF : Hid (BufAt w1 g 0 L) := bts_buf3 hbts
  have HB1 : Hid (Below w.heap.size w w1) := hb1
  clear hbts hb1 hc hz
  go_wp2_with fail
  refine (parse_any g L.length L w1 hn hB HBUF.out hg1).mono ?_
  intro e w2 hp
  cases hd1 : decodeM L with
  | none =>
    obtain ⟨⟨t, v1, v2, v3, st, ln, sy, has, ea, en, ec, rfl⟩, hb2⟩ := hp.1 hd1
    have HB2 : Hid (Below w1.heap.size w1 w2) := hb2
    clear hp hb2
    go_wp2_with fail
    obtain ⟨o1, ho1⟩ : ∃ o1 : Array Value, o1 = #[.int .u8 t, .bool sy, .int .u64 v1, .int .u64 v2, .int .u64 v3, .bool has, .int .i64 st, .int .i64 ln, .slice ea en ec] := ⟨_, rfl⟩
    rw [← ho1]
    have hb3 : Below w1.heap.size w1 (w2.alloc (.cells o1 28)) := HB2.out.alloc HB2.out.size _
    refine (msg_any F g 0 L.length L _ ?_ hn (Nat.le_refl _) hB (by omega) (buf_below HBUF.out hb3 hg1)).mono ?_
    · show F.answers w2.tape
      rw [HB2.out.tape, HB1.out.tape]; exact hF
    intro e w3 hp
    obtain ⟨T, q, rfl, hb4⟩ := hp.1 hd1
    have hws : w.heap.size ≤ w1.heap.size := HB1.out.size
    have HB3 : Hid (Below w.heap.size w w3) := HB1.out.trans ((hb3.trans (hb4.mono hb3.size)).mono hws)
    clear hp hb4 hb3 ho1
    simp only [zeroMsg]
    go_wp2_with fail
    refine (zero_yes _).mono ?_
    rintro e w4 ⟨rfl, hb4⟩
    have hb5 : Below w.heap.size w (w3.alloc (.cells zeroMsg 35)) := HB3.out.alloc HB3.out.size _
    have HB4 : Hid (Below w.heap.size w w4) := hb5.trans (hb4.mono hb5.size)
    clear hb4 hb5
    go_wp2_with fail
    go_ret
    exact ⟨rfl, HB4.out⟩
  | some m =>
    obtain ⟨st, ln, ea, en, ec, rfl, hwv, hst, hln, hwe, hb2⟩ := hp.2 m hd1
    have HB2 : Hid (Below w1.heap.size w1 w2) := hb2
    have HWE : Hid (WEnts L.length w2 w1.heap.size m.ents (.slice ea en ec)) := hwe
    have HWV : Hid (WV m.val st ln) := hwv
    clear hp hb2 hwe hwv
    go_wp2_with fail
    obtain ⟨o1, ho1⟩ : ∃ o1 : Array Value, o1 = #[.int .u8 (m.typ : Int), .bool m.synced, .int .u64 (m.tag : Int), .int .u64 (m.place : Int), .int .u64 (m.ballot : Int), .bool m.val.isSome, .int .i64 (st : Int), .int .i64 (ln : Int), .slice ea en ec] := ⟨_, rfl⟩
    rw [← ho1]
    have hb3 : Below w1.heap.size w1 (w2.alloc (.cells o1 28)) := HB2.out.alloc HB2.out.size _
    refine (msg_any F g 0 L.length L _ ?_ hn (Nat.le_refl _) hB (by omega) (buf_below HBUF.out hb3 hg1)).mono ?_
    · show F.answers w2.tape
      rw [HB2.out.tape, HB1.out.tape]; exact hF
    intro e w3 hp
    obtain ⟨va, vn, vc, ma, mn, mc, rfl, hv, hes, hb4⟩ := hp.2 m hd1
    obtain ⟨o2, ho2⟩ : ∃ o2 : Array Value, o2 = #[.int .u8 (m.typ : Int), .int .i64 0, .int .i64 0, .int .u64 (m.tag : Int), .int .u64 (m.place : Int), .int .u64 (m.ballot : Int), .slice va vn vc, .slice ma mn mc, .bool m.synced] := ⟨_, rfl⟩
    have hws : w.heap.size ≤ w1.heap.size := HB1.out.size
    have hs2 : w1.heap.size ≤ w2.heap.size := HB2.out.size
    have hs4 : w2.heap.size + 1 ≤ w3.heap.size := by have := hb4.size; simpa using this
    have h23 : Below w2.heap.size w2 w3 := ((Below.refl _ w2).alloc (Nat.le_refl _) _).trans (hb4.mono (by simp))
    have h34 : Below w3.heap.size w3 (w3.alloc (.cells o2 35)) := (Below.refl _ w3).alloc (Nat.le_refl _) _
    have h24 : Below w2.heap.size w2 (w3.alloc (.cells o2 35)) := h23.trans (h34.mono h23.size)
    have h14 : Below w1.heap.size w1 (w3.alloc (.cells o2 35)) := HB2.out.trans (h24.mono hs2)
    have HB4 : Hid (Below w.heap.size w (w3.alloc (.cells o2 35))) := HB1.out.trans (h14.mono hws)
    have HBUF4 : Hid (BufAt (w3.alloc (.cells o2 35)) g 0 L) := buf_below HBUF.out h14 hg1
    have HES4 : Hid (EntsIs (w3.alloc (.cells o2 35)) g 0 (w2.alloc (.cells o1 28)).heap.size m.ents (.slice ma mn mc)) := entsIs_below hes h34
    have HWE4 : Hid (WEnts L.length (w3.alloc (.cells o2 35)) w1.heap.size m.ents (.slice ea en ec)) := wents_below HWE.out h24
    have HV : Hid (ValIs g 0 m.val (.slice va vn vc)) := hv
    have hM1 : (w3.alloc (.cells o2 35)).heap[w2.heap.size]? = some (.cells o1 28 (0, 0)) := by
      rw [Below.heap_alloc _ _ _ (by omega), hb4.block w2.heap.size (by simp)]
      exact heap_alloc_new w2 _
    obtain ⟨q0, q1, q2, q3, q4, q5, q6, q7, q8, qf⟩ := nine_of (ho1 ▸ hM1)
    have hg4 : g < (w3.alloc (.cells o2 35)).heap.size := by have := h14.size; omega
    have hfew := ents_few hd1
    clear hp hb4 hb3 hv hes h23 h34 h24 h14 hM1 qf
    rw [ho2] at q0 q1 q2 q3 q4 q5 q6 q7 q8
    rw [ho2] at HB4 HBUF4 HES4 HWE4 hg4
    go_wp2_with fail
    refine (wire_any g L.length L m st ln va vn vc ma mn mc ea en ec _ _ _ hB hg4 HBUF4.out hd1 HV.out HWV.out HES4.out HWE4.out (by omega)).mono ?_
    rintro e w5 ⟨rfl, hb5⟩
    have HB5 : Hid (Below w.heap.size w w5) := HB4.out.trans (hb5.mono HB4.out.size)
    clear hb5
    go_wp2_with fail
    go_ret
    exact ⟨rfl, HB5.out⟩
end Go.Proofs.Qxb6616623aFmt
