/-
  DecodeMessage computes decodeM.
-/
import Derived.Test.Qxb6616623aFmtMsgC
namespace Go.Proofs.Qxb6616623aFmt
open Go.RowKit Go.Lib Go.Shelf
open Go.Stop (Interp)

set_option maxRecDepth 100000 in
theorem bit1 : ∀ b : Fin 256, bits .andNot .u8 (b.val : Int) 128 = ((b.val % 128 : Nat) : Int) := by decide
set_option maxRecDepth 100000 in
theorem bit2 : ∀ b : Fin 256, (bits .and .u8 (b.val : Int) 128 != 0) = decide (128 ≤ b.val) := by decide

def MsgPost (w : World) (g o : Nat) (L : List UInt8) (e : Ending) (w' : World) : Prop :=
  (decodeM L = none → Refused w e w') ∧ ∀ m, decodeM L = some m → Accepted w g o m e w'

theorem head_step {L : List UInt8} {v1 v2 v3 v5 : Nat} {x4 : Option (Nat × Nat)} {st1 st2 st3 st4 st5 : Option Nat} (k1 : stVar L (some 1) = (v1, st1)) (k2 : stVar L st1 = (v2, st2)) (k3 : stVar L st2 = (v3, st3)) (k4 : stVal L st3 = (x4, st4)) (k5 : stVar L st4 = (v5, st5)) :
    (rHead L = none → st5 = none) ∧ (∀ p, st5 = some p → rHead L = some ((v1, v2, v3, x4, v5), p)) := by
  have c4 : st4 = none → st5 = none := fun h => by rw [h, stVar_nil] at k5; exact (Prod.mk.inj k5).2.symm
  have c3 : st3 = none → st5 = none := fun h => by rw [h, stVal_nil] at k4; exact c4 (Prod.mk.inj k4).2.symm
  have c2 : st2 = none → st5 = none := fun h => by rw [h, stVar_nil] at k3; exact c3 (Prod.mk.inj k3).2.symm
  have c1 : st1 = none → st5 = none := fun h => by rw [h, stVar_nil] at k2; exact c2 (Prod.mk.inj k2).2.symm
  have both : st5 = none → (rHead L = none → st5 = none) ∧ (∀ p, st5 = some p → rHead L = some ((v1, v2, v3, x4, v5), p)) := fun h => ⟨fun _ => h, fun p hp => by rw [h] at hp; cases hp⟩
  cases r1 : rVar L 1 with
  | none => rw [stVar_no r1] at k1; exact both (c1 (Prod.mk.inj k1).2.symm)
  | some y1 =>
    obtain ⟨a1, p1⟩ := y1
    rw [stVar_yes r1] at k1
    obtain ⟨e1, e2⟩ := Prod.mk.inj k1
    subst e1; subst e2
    cases r2 : rVar L p1 with
    | none => rw [stVar_no r2] at k2; exact both (c2 (Prod.mk.inj k2).2.symm)
    | some y2 =>
      obtain ⟨a2, p2⟩ := y2
      rw [stVar_yes r2] at k2
      obtain ⟨e1, e2⟩ := Prod.mk.inj k2
      subst e1; subst e2
      cases r3 : rVar L p2 with
      | none => rw [stVar_no r3] at k3; exact both (c3 (Prod.mk.inj k3).2.symm)
      | some y3 =>
        obtain ⟨a3, p3⟩ := y3
        rw [stVar_yes r3] at k3
        obtain ⟨e1, e2⟩ := Prod.mk.inj k3
        subst e1; subst e2
        cases r4 : rVal L p3 with
        | none => rw [stVal_no r4] at k4; exact both (c4 (Prod.mk.inj k4).2.symm)
        | some y4 =>
          obtain ⟨a4, p4⟩ := y4
          rw [stVal_yes r4] at k4
          obtain ⟨e1, e2⟩ := Prod.mk.inj k4
          subst e1; subst e2
          cases r5 : rVar L p4 with
          | none => rw [stVar_no r5] at k5; exact both (Prod.mk.inj k5).2.symm
          | some y5 =>
            obtain ⟨a5, p5⟩ := y5
            rw [stVar_yes r5] at k5
            obtain ⟨e1, e2⟩ := Prod.mk.inj k5
            subst e1; subst e2
            have hh : rHead L = some ((a1, a2, a3, a4, a5), p5) := by
              unfold rHead
              simp only [r1, r2, r3, r4, r5]
            exact ⟨fun h => (by rw [hh] at h; cases h), fun p hp => (by cases hp; exact hh)⟩

theorem decodeM_type {L : List UInt8} (hn : 0 < L.length) (ht : typOk ((L[0]).toNat % 128) = false) : decodeM L = none := by
  cases L with
  | nil => simp at hn
  | cons b r =>
    rw [List.getElem_cons_zero] at ht
    unfold decodeM
    simp only [ht]
    rfl
theorem decodeM_head {L : List UInt8} (hn : 0 < L.length) (ht : typOk ((L[0]).toNat % 128) = true) (h : rHead L = none) : decodeM L = none := by
  cases L with
  | nil => simp at hn
  | cons b r =>
    rw [List.getElem_cons_zero] at ht
    unfold decodeM
    simp only [ht, if_true, h]
theorem decodeM_ents {L : List UInt8} (hn : 0 < L.length) (ht : typOk ((L[0]).toNat % 128) = true) {v1 v2 v3 v5 p : Nat} {x4 : Option (Nat × Nat)} (h : rHead L = some ((v1, v2, v3, x4, v5), p)) :
    (∀ es, rEnts L p v5 = some (es, L.length) → decodeM L = some ⟨(L[0]).toNat % 128, decide (128 ≤ (L[0]).toNat), v1, v2, v3, x4, es⟩) ∧ ((∀ es, rEnts L p v5 ≠ some (es, L.length)) → decodeM L = none) := by
  cases L with
  | nil => simp at hn
  | cons b r =>
    rw [List.getElem_cons_zero] at ht ⊢
    unfold decodeM
    simp only [ht, if_true, h]
    refine ⟨fun es he => ?_, fun hno => ?_⟩
    · simp only [he, if_true]
    · cases he : rEnts (b :: r) p v5 with
      | none => rfl
      | some y =>
        obtain ⟨es, q⟩ := y
        simp only
        rw [if_neg]
        intro hq
        rw [hq] at he
        exact hno es he

theorem msg_any (F : Interp) (g o c : Nat) (L : List UInt8) (w : World) (hF : F.answers w.tape) (hn : 0 < L.length) (hnc : L.length ≤ c) (hl9 : L.length ≤ 1048576) (hc9 : c ≤ 9223372036854775807) (hbuf : BufAt w g o L) :
    Calls Tryf.prog 9 #[.slice (some ⟨g, o, none⟩) L.length c] w (MsgPost w g o L) := by
  have hb1 := bit1 ⟨(L[0]).toNat, (L[0]).toNat_lt⟩
  have hb2 := bit2 ⟨(L[0]).toNat, (L[0]).toNat_lt⟩
  simp only at hb1 hb2
  have hb : w.cell? ⟨g, o, none⟩ = some (.int .u8 ((L[0]).toNat : Int)) := by
    have := hbuf 0 hn
    rw [Nat.add_zero] at this
    exact this
  cases ht : typOk ((L[0]).toNat % 128) with
  | false =>
    have hd := decodeM_type hn ht
    refine (msg_type F g o c L.length _ _ _ w hF hn hnc hb hl9 hc9 ht hb1 hb2).mono ?_
    intro e w' h
    exact ⟨fun _ => h, fun m hm => by rw [hd] at hm; cases hm⟩
  | true =>
    obtain ⟨⟨v1, st1⟩, k1⟩ : ∃ r, stVar L (some 1) = r := ⟨_, rfl⟩
    obtain ⟨⟨v2, st2⟩, k2⟩ : ∃ r, stVar L st1 = r := ⟨_, rfl⟩
    obtain ⟨⟨v3, st3⟩, k3⟩ : ∃ r, stVar L st2 = r := ⟨_, rfl⟩
    obtain ⟨⟨x4, st4⟩, k4⟩ : ∃ r, stVal L st3 = r := ⟨_, rfl⟩
    obtain ⟨⟨v5, st5⟩, k5⟩ : ∃ r, stVar L st4 = r := ⟨_, rfl⟩
    obtain ⟨s1, s2⟩ := head_step k1 k2 k3 k4 k5
    have refuse : decodeM L = none → ∀ e w', Refused w e w' → MsgPost w g o L e w' := fun hd e w' h => ⟨fun _ => h, fun m hm => by rw [hd] at hm; cases hm⟩
    have accept : ∀ m, decodeM L = some m → ∀ e w', Accepted w g o m e w' → MsgPost w g o L e w' := fun m hd e w' h => ⟨fun hm => (by rw [hd] at hm; cases hm), fun m' hm => by rw [hd] at hm; cases hm; exact h⟩
    cases hs5 : st5 with
    | none =>
      have hd : decodeM L = none := by
        apply decodeM_head hn ht
        cases hr : rHead L with
        | none => rfl
        | some y =>
          exfalso
          obtain ⟨⟨a1, a2, a3, a4, a5⟩, q⟩ := y
          have : st5 ≠ none := by
            intro _
            revert hr
            unfold rHead
            cases r1 : rVar L 1 with
            | none => intro hr; cases hr
            | some y1 =>
              obtain ⟨b1, p1⟩ := y1
              rw [stVar_yes r1] at k1; obtain ⟨_, e1⟩ := Prod.mk.inj k1; subst e1
              simp only
              cases r2 : rVar L p1 with
              | none => intro hr; cases hr
              | some y2 =>
                obtain ⟨b2, p2⟩ := y2
                rw [stVar_yes r2] at k2; obtain ⟨_, e1⟩ := Prod.mk.inj k2; subst e1
                simp only
                cases r3 : rVar L p2 with
                | none => intro hr; cases hr
                | some y3 =>
                  obtain ⟨b3, p3⟩ := y3
                  rw [stVar_yes r3] at k3; obtain ⟨_, e1⟩ := Prod.mk.inj k3; subst e1
                  simp only
                  cases r4 : rVal L p3 with
                  | none => intro hr; cases hr
                  | some y4 =>
                    obtain ⟨b4, p4⟩ := y4
                    rw [stVal_yes r4] at k4; obtain ⟨_, e1⟩ := Prod.mk.inj k4; subst e1
                    simp only
                    cases r5 : rVar L p4 with
                    | none => intro hr; cases hr
                    | some y5 =>
                      obtain ⟨b5, p5⟩ := y5
                      rw [stVar_yes r5] at k5; obtain ⟨_, e1⟩ := Prod.mk.inj k5; subst e1
                      cases hs5
          exact this hs5
      exact (msg_head_none F g o c L _ _ _ w hF hn hnc hl9 hc9 hbuf rfl ht hb1 hb2 v1 v2 v3 v5 x4 st1 st2 st3 st4 st5 k1 k2 k3 k4 k5 hs5).mono (refuse hd)
    | some p =>
      have hh := s2 p hs5
      obtain ⟨d1, d2⟩ := decodeM_ents hn ht hh
      have hpL : p ≤ L.length := by
        cases st4 with
        | none => rw [stVar_nil] at k5; have := (Prod.mk.inj k5).2; rw [hs5] at this; cases this
        | some p4 =>
          cases r5 : rVar L p4 with
          | none => rw [stVar_no r5] at k5; have := (Prod.mk.inj k5).2; rw [hs5] at this; cases this
          | some y =>
            obtain ⟨a, q⟩ := y
            rw [stVar_yes r5] at k5
            have := (Prod.mk.inj k5).2
            rw [hs5] at this
            cases this
            exact (rVar_some r5).2.1
      by_cases hmany : (L.length - p) / 5 < v5
      · have hd : decodeM L = none := d2 fun es he => by
          have := rEnts_some hpL he
          omega
        exact (msg_many F g o c L _ _ _ w hF hn hnc hl9 hc9 hbuf rfl ht hb1 hb2 v1 v2 v3 v5 x4 st1 st2 st3 st4 st5 k1 k2 k3 k4 k5 p hs5 hmany).mono (refuse hd)
      · by_cases h0 : v5 = 0
        · by_cases hq : p = L.length
          · have hd := d1 [] (by subst h0; subst hq; rfl)
            exact (msg_whole F g o c L _ _ _ w hF hn hnc hl9 hc9 hbuf rfl ht hb1 hb2 v1 v2 v3 v5 x4 st1 st2 st3 st4 st5 k1 k2 k3 k4 k5 p hs5 h0 hq).mono (accept _ hd)
          · have hd : decodeM L = none := d2 fun es he => by
              subst h0
              simp only [rEnts, Option.some.injEq, Prod.mk.injEq] at he
              exact hq he.2
            exact (msg_rest F g o c L _ _ _ w hF hn hnc hl9 hc9 hbuf rfl ht hb1 hb2 v1 v2 v3 v5 x4 st1 st2 st3 st4 st5 k1 k2 k3 k4 k5 p hs5 h0 (by omega)).mono (refuse hd)
        · refine (msg_loop F g o c L _ _ _ w hF hn hnc hl9 hc9 hbuf rfl ht hb1 hb2 v1 v2 v3 v5 x4 st1 st2 st3 st4 st5 k1 k2 k3 k4 k5 p hs5 (by omega) hmany).mono ?_
          intro e w' h
          by_cases hex : ∃ es, rEnts L p v5 = some (es, L.length)
          · obtain ⟨es, he⟩ := hex
            exact accept _ (d1 es he) e w' (h.1 es he)
          · have hno : ∀ es, rEnts L p v5 ≠ some (es, L.length) := fun es he => hex ⟨es, he⟩
            exact refuse (d2 hno) e w' (h.2 hno)
end Go.Proofs.Qxb6616623aFmt
