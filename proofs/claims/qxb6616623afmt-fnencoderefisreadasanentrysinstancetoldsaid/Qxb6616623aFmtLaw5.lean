/-
  The walk of FnEncodeRefIsReadAsAnEntrysInstance.
-/
import Derived.Test.Qxb6616623aFmtEnc
import Derived.Deep.QuietTactic
import Derived.BigQuiet
namespace Go.Proofs.Qxb6616623aFmt
open Go.RowKit Go.Lib Go.Shelf
open Go.Stop (Interp)
set_option linter.unusedVariables false

def Five (w : World) (e : Ending) (w' : World) : Prop := e = .returned (.bool true) ∧ Below w.heap.size w w'

def six : List UInt8 := [5, 0, 0, 0, 0, 1]

theorem owns_six (W : World) : (W.alloc (.cells #[.int .u8 5, .int .u8 0, .int .u8 0, .int .u8 0, .int .u8 0, .int .u8 1] 5)).ownsRow W.heap.size 5 1 (.slice (some ⟨W.heap.size, 0, none⟩) 6 6) 6 (byteCells six) := by
  refine ⟨by simp [byteCells, six], .inr ⟨W.heap.size, 6, _, rfl, Nat.le_refl _, heap_alloc_new _ _, Nat.le_refl _, by unfold maxLen; omega, by simp, ?_⟩⟩
  simp [byteCells, six]

theorem owns_cap {w : World} {B n : Nat} {v : Value} {xs : List Value} (h : w.ownsRow B 5 1 v n xs) (hn : 0 < n) : ∃ g cap, v = .slice (some ⟨g, 0, none⟩) n cap ∧ cap ≤ 9223372036854775807 := by
  rcases h.2 with ⟨_, h2⟩ | ⟨g, cap, cur, rfl, hB, hg, hc, hm, _⟩
  · omega
  · exact ⟨g, cap, rfl, by unfold maxLen at hm; omega⟩

theorem take_snoc (E : List UInt8) (k : Nat) (hk : k < E.length) : E.take (k + 1) = E.take k ++ [E[k]] := by
  rw [List.take_add_one, List.getElem?_eq_getElem hk]
  rfl

theorem below_app {B : Nat} {w wr w1 : World} {v : Value} {n : Nat} {xs : List Value} {o : Obj} (hB : B ≤ wr.heap.size) (hbel : Below B w wr) (hown : wr.ownsRow B 5 1 v n xs) (hgrow : (wr.alloc o).grownBy w1 v.ownBlock) : Below B w w1 ∧ B ≤ w1.heap.size := by
  have h := (hbel.alloc (by omega) o).grown hgrow (by simp; omega) (fun j hj => (hown.lt j hj).1)
  exact ⟨h, by have := hgrow.size; simp at this; omega⟩

set_option maxHeartbeats 4000000 in
theorem law5_any (F : Interp) (s : Int) (S i : Nat) (w : World) (hF : F.answers w.tape) (hS : IntKind.u64.wrap s = (S : Int)) (hS64 : S < 18446744073709551616) (hi : i < 18446744073709551616) (hs7 : S ≤ 7 → s = (S : Int)) (hs8 : 7 < S → s < 0 ∨ 7 < s) :
    Calls Tryf.prog 5 #[.int .i64 s, .int .u64 (i : Int)] w (Five w) := by
  have he := fun (W : World) => enc_any s S i W hS hS64 hi
  have hl1 := uvarint_length64 hS64
  have hl2 := uvarint_length64 hi
  have HE : Hid (∀ W : World, Calls Tryf.prog 13 #[.agg #[.int .i64 s, .int .u64 (i : Int)]] W fun e w' => ∃ g cap, e = .returned (.slice (some ⟨g, 0, none⟩) ((uvarint S).length + (uvarint i).length) cap) ∧ W.heap.size ≤ g ∧ g < w'.heap.size ∧ (uvarint S).length + (uvarint i).length ≤ cap ∧ (∀ j (hj : j < (uvarint S ++ uvarint i).length), w'.cell? ⟨g, 0 + j, none⟩ = some (.int .u8 ((uvarint S ++ uvarint i)[j]).toNat)) ∧ Below W.heap.size W w') := he
  have hdec := refMsg_decode S i hS64 hi
  have hlen := refMsg_length S i
  obtain ⟨E, hE⟩ : ∃ E, E = uvarint S ++ uvarint i := ⟨_, rfl⟩
  have hEl : E.length = (uvarint S).length + (uvarint i).length := by rw [hE, List.length_append]
  obtain ⟨n, hn⟩ : ∃ n, n = (uvarint S).length + (uvarint i).length := ⟨_, rfl⟩
  have hn20 : n ≤ 20 := by omega
  have hRM : Hid (refMsg S i = six ++ E ++ [0, 0, 0]) := by rw [hE]; rfl
  have HDEC : Hid (decodeM (refMsg S i) = if 7 < S then none else some ⟨5, false, 0, 0, 0, none, [⟨S, i, 0, 0, none⟩]⟩) := hdec
  have HLEN : Hid ((refMsg S i).length = 9 + n) := by show _ = _; omega
  rw [← hn] at HE hEl
  rw [← hE] at HE
  clear he hdec hlen hE hn hl1 hl2 hS
  obtain ⟨i0, hi0, hz0, hz1, hz2⟩ := info_parts Tryf.info5
  go_enter Tryf.func5, Tryf.ntmps5
  go_wp2_with fail
  refine (HE.out _).mono ?_
  rintro e w2 ⟨g, cap, rfl, hg, hg2, hcap, hcells, hb2⟩
  have HC : Hid (BufAt w2 g 0 E) := hcells
  have HB2 : Hid (Below w.heap.size w w2) := ((Below.refl _ w).alloc (Nat.le_refl _) _).trans (hb2.mono (by simp))
  have hR : w2.heap[w.heap.size]? = some (.cells #[.int .i64 s, .int .u64 (i : Int)] 44 (0, 0)) := (hb2.block w.heap.size (by simp)).trans (heap_alloc_new w _)
  have HR : Hid (w2.heap[w.heap.size]? = some (.cells #[.int .i64 s, .int .u64 (i : Int)] 44 (0, 0))) := hR
  have hwg : w.heap.size < g := by simp at hg; omega
  clear hcells hb2 HE hR hg
  have HO0 := owns_six w2
  have hgE : ∀ {wr : World}, Below w2.heap.size w2 wr → BufAt wr g 0 E := fun h => buf_below HC.out h hg2
  have HGE : Hid (∀ {wr : World}, Below w2.heap.size w2 wr → BufAt wr g 0 E) := hgE
  clear hgE
  go_wp2_with fail
  go_loopw [7, 8] (fun v c wr => ∃ k : Nat, k ≤ n ∧ c = .int .i64 (k : Int) ∧ wr.ownsRow w2.heap.size 5 1 v (6 + k) (byteCells (six ++ E.take k)) ∧ Below w2.heap.size w2 wr ∧ w2.heap.size ≤ wr.heap.size) (fun _ c _ => n - (RowKit.intOf c).toNat)
  case atStart => exact ⟨0, Nat.zero_le _, rfl, by simpa using HO0, (Below.refl _ _).alloc (Nat.le_refl _) _, by simp⟩
  case round =>
    obtain ⟨k, hk, rfl, hown, hbel, hsz⟩ := hrel
    clear HO0
    by_cases hkn : k < n
    · have hkE : k < E.length := by omega
      have hbyte := HGE.out hbel k hkE
      rw [Nat.zero_add] at hbyte
      have HOW : Hid (wr.ownsRow w2.heap.size 5 1 u7 (6 + k) (byteCells (six ++ E.take k))) := hown
      have HBEL : Hid (Below w2.heap.size w2 wr) := hbel
      clear hown hbel
      have hsn := take_snoc E k hkE
      generalize E[k] = b at hbyte hsn
      go_wp2_with (first
        | (at_builtin; refine wpList_append_own _ rfl _ _ 22 rfl w2.heap.size 5 i0 (.int .u8 0) 1 1 Tryf.underlying22 hi0 hz0 hz1 hz2 rfl (by decide) _ _ _ rfl (HOW.out.alloc _) ⟨wr.heap.size, 0, none⟩ 1 1 [.int .u8 (b.toNat : Int)] rfl rfl ?c1 ?c2 ?c3 ?c4 ?c5 ?_)
        | fail)
      case c1 =>
        intro j u hj
        match j, hj with
        | 0, hj => simp at hj; subst hj; simp [Addr.add]
      case c2 => intro u hu; simp at hu; subst hu; rfl
      case c3 => unfold maxLen; omega
      case c4 => omega
      case c5 => simp; omega
      intro v' w4 hown' hgrow _
      obtain ⟨hb4, hs4⟩ := below_app hsz HBEL.out HOW.out hgrow
      have HO4 : Hid (w4.ownsRow w2.heap.size 5 1 v' (6 + (k + 1)) (byteCells (six ++ E.take (k + 1)))) := by
        rw [hsn, ← List.append_assoc, byteCells_append]
        exact hown'
      have HB4 : Hid (Below w2.heap.size w2 w4) := hb4
      clear hown' hgrow hb4 hsn hbyte
      go_wp2_with fail
      go_roundw
      case rel => exact ⟨k + 1, by omega, by simp, HO4.out, HB4.out, hs4⟩
      case measure => simp [RowKit.intOf]; omega
    · have hke : k = n := by omega
      subst hke
      have HOW : Hid (wr.ownsRow w2.heap.size 5 1 u7 (6 + k) (byteCells (six ++ E))) := by
        have : E.take k = E := List.take_of_length_le (by omega)
        rw [this] at hown
        exact hown
      have HBEL : Hid (Below w2.heap.size w2 wr) := hbel
      clear hown hbel
      go_wp2_with (first
        | (at_builtin; refine wpList_append_own _ rfl _ _ 22 rfl w2.heap.size 5 i0 (.int .u8 0) 1 1 Tryf.underlying22 hi0 hz0 hz1 hz2 rfl (by decide) _ _ _ rfl (HOW.out.alloc _) ⟨wr.heap.size, 0, none⟩ 3 3 (byteCells [0, 0, 0]) rfl rfl ?c1 ?c2 ?c3 ?c4 ?c5 ?_)
        | fail)
      case c1 =>
        intro j u hj
        match j, hj with
        | 0, hj => simp [byteCells] at hj; subst hj; simp [Addr.add]
        | 1, hj => simp [byteCells] at hj; subst hj; simp [Addr.add]
        | 2, hj => simp [byteCells] at hj; subst hj; simp [Addr.add]
        | j + 3, hj => simp [byteCells] at hj
      case c2 => intro u hu; simp [byteCells] at hu; subst hu; rfl
      case c3 => unfold maxLen; omega
      case c4 => omega
      case c5 => simp; omega
      intro v' w4 hown' hgrow _
      obtain ⟨hb4, hs4⟩ := below_app hsz HBEL.out HOW.out hgrow
      rw [← byteCells_append, ← hRM.out] at hown'
      obtain ⟨g4, cap4, hv4, hg4, hc4, hl4, hgs4, hcell4⟩ := owns_view hown' (by omega)
      have hcapb : cap4 ≤ 9223372036854775807 := by
        obtain ⟨_, _, h1, h2⟩ := owns_cap hown' (by omega)
        rw [hv4] at h1
        cases h1
        exact h2
      subst hv4
      have HB4 : Hid (Below w2.heap.size w2 w4) := hb4
      have HBUF : Hid (BufAt w4 g4 0 (refMsg S i)) := hcell4
      have hm := msg_any F g4 0 cap4 (refMsg S i) w4 (by rw [hb4.tape, HB2.out.tape]; exact hF) (by omega) (by omega) (by omega) hcapb hcell4
      rw [hl4] at hm
      have hgw4 : w.heap.size < w4.heap.size := by omega
      have HBW : Hid (Below w.heap.size w w4) := HB2.out.trans (hb4.mono HB2.out.size)
      have hR4 : w4.heap[w.heap.size]? = some (.cells #[.int .i64 s, .int .u64 (i : Int)] 44 (0, 0)) := (hb4.block w.heap.size (by omega)).trans HR.out
      have HR4 : Hid (w4.heap[w.heap.size]? = some (.cells #[.int .i64 s, .int .u64 (i : Int)] 44 (0, 0))) := hR4
      clear hown' hgrow hb4 hcell4 hR4
      go_wp2_with fail
      refine hm.mono ?_
      intro e w5 hp
      by_cases h7 : 7 < S
      · have hd : decodeM (refMsg S i) = none := by rw [HDEC.out, if_pos h7]
        obtain ⟨T, p, rfl, hb5⟩ := hp.1 hd
        have HB5 : Hid (Below w.heap.size w w5) := HBW.out.trans (hb5.mono (by omega))
        clear hp hb5 hm hd
        simp only [zeroMsg]
        rcases hs8 h7 with hneg | hbig
        · clear hs8 hs7 h7
          go_wp2_with fail
          go_ret
          exact ⟨rfl, HB5.out.alloc HB5.out.size _⟩
        · have hnn : ¬ s < 0 := by omega
          clear hs8 hs7 h7
          go_wp2_with fail
          go_ret
          exact ⟨rfl, HB5.out.alloc HB5.out.size _⟩
      · have hd : decodeM (refMsg S i) = some ⟨5, false, 0, 0, 0, none, [⟨S, i, 0, 0, none⟩]⟩ := by rw [HDEC.out, if_neg h7]
        obtain ⟨va, vn, vc, ea, en, ec, rfl, hv, hes, hb5⟩ := hp.2 _ hd
        have HB5 : Hid (Below w.heap.size w w5) := HBW.out.trans (hb5.mono (by omega))
        obtain ⟨X, hx, hX, hent⟩ := hes
        obtain ⟨e0, e1, e2, e3, xa, xn, xc, e4, hxv⟩ := hent 0 (by simp)
        have hse : s = (S : Int) := hs7 (by omega)
        simp only [Nat.zero_mul, Nat.zero_add, List.getElem_cons_zero] at e0 e1 e2 e3 e4 hxv
        have hxv' : Value.slice xa xn xc = .slice none 0 0 := hxv
        rw [hxv'] at e4
        have hx' : Value.slice ea en ec = .slice (some ⟨X, 0, none⟩) 1 1 := hx
        rw [hx']
        have hXl : X < w5.heap.size := block_lt_of_cell e0
        have hR5 : w5.heap[w.heap.size]? = some (.cells #[.int .i64 s, .int .u64 (i : Int)] 44 (0, 0)) := (hb5.block w.heap.size hgw4).trans HR4.out
        have hRl : w.heap.size < w5.heap.size := block_lt hR5
        have r0 := cell_of_row w5 w.heap.size 0 _ _ _ hR5
        have r1 := cell_of_row w5 w.heap.size 1 _ _ _ hR5
        simp at r0 r1
        subst hse
        have hS7 : ¬ (7 : Int) < (S : Int) := by omega
        have hS0 : ¬ (S : Int) < 0 := by omega
        have hnil := fun (W : World) => run_eql_slice_nil (P := Tryf.prog) W 22 5 none 0 0 Tryf.underlying22
        clear hp hb5 hm hd hv hx hx' hxv hxv' hent hR5 hs7 hs8 h7
        clear hg2 hwg hsz hEl hn20 hcap hk hkn hs4 hg4 hc4 hl4 hgs4 hcapb hX hgw4 hi0 hz0 hz1 hz2 hS64 hi HR HR4 HBW HBUF HB4 HBEL HOW HLEN HGE HB2 HC HDEC hRM hF
        go_wp2_with fail
        go_ret
        exact ⟨rfl, (HB5.out.alloc HB5.out.size _).alloc (by simp; omega) _⟩
end Go.Proofs.Qxb6616623aFmt
