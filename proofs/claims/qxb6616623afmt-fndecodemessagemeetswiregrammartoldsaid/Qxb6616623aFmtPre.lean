/-
  The plain law: of a list and a proper prefix of it, decodeM accepts at most one.
-/
import Derived.Test.Qxb6616623aFmtSpec
namespace Go.Proofs.Qxb6616623aFmt
open Go.Lib

theorem from_append : ∀ (l r : List UInt8) (i acc : Nat), 0 < (uvarintFrom i acc l).2 → uvarintFrom i acc (l ++ r) = uvarintFrom i acc l
  | [], r, i, acc, h => by simp [uvarintFrom] at h
  | b :: l, r, i, acc, h => by
    rw [List.cons_append]
    unfold uvarintFrom at h ⊢
    by_cases h1 : i = 10
    · rw [if_pos h1, if_pos h1]
    · rw [if_neg h1] at h
      rw [if_neg h1, if_neg h1]
      by_cases h2 : b.toNat < 128
      · rw [if_pos h2, if_pos h2]
      · rw [if_neg h2] at h
        rw [if_neg h2, if_neg h2]
        exact from_append l r _ _ h

theorem rVar_append {A : List UInt8} (R : List UInt8) {p v q : Nat} (h : rVar A p = some (v, q)) : rVar (A ++ R) p = some (v, q) := by
  unfold rVar at h ⊢
  by_cases hp : 0 < (uvarintDec (A.drop p)).2
  · have e : uvarintDec ((A ++ R).drop p) = uvarintDec (A.drop p) := by
      rw [List.drop_append]
      exact from_append _ _ _ _ hp
    rw [e]
    exact h
  · rw [if_neg hp] at h; cases h

theorem rVal_append {A : List UInt8} (R : List UInt8) {p q : Nat} {v : Option (Nat × Nat)} (h : rVal A p = some (v, q)) : rVal (A ++ R) p = some (v, q) := by
  unfold rVal at h ⊢
  cases h1 : rVar A p with
  | none => rw [h1] at h; cases h
  | some y =>
    obtain ⟨n, k⟩ := y
    rw [h1] at h
    rw [rVar_append R h1]
    simp only at h ⊢
    by_cases h0 : n = 0
    · rw [if_pos h0] at h ⊢; exact h
    · rw [if_neg h0] at h ⊢
      by_cases h2 : A.length - k < n - 1
      · rw [if_pos h2] at h; cases h
      · rw [if_neg h2] at h
        rw [if_neg (by rw [List.length_append]; omega)]
        exact h

theorem rEnt_append {A : List UInt8} (R : List UInt8) {p q : Nat} {e : Ent} (h : rEnt A p = some (e, q)) : rEnt (A ++ R) p = some (e, q) := by
  unfold rEnt at h ⊢
  cases h1 : rVar A p with
  | none => rw [h1] at h; cases h
  | some y1 =>
    obtain ⟨s, p1⟩ := y1
    rw [h1] at h
    rw [rVar_append R h1]
    simp only at h ⊢
    cases h2 : rVar A p1 with
    | none => rw [h2] at h; cases h
    | some y2 =>
      obtain ⟨x, p2⟩ := y2
      rw [h2] at h
      rw [rVar_append R h2]
      simp only at h ⊢
      by_cases h7 : 7 < s
      · rw [if_pos h7] at h; cases h
      · rw [if_neg h7] at h ⊢
        cases h3 : rVar A p2 with
        | none => rw [h3] at h; cases h
        | some y3 =>
          obtain ⟨b, p3⟩ := y3
          rw [h3] at h
          rw [rVar_append R h3]
          simp only at h ⊢
          cases h4 : rVar A p3 with
          | none => rw [h4] at h; cases h
          | some y4 =>
            obtain ⟨a, p4⟩ := y4
            rw [h4] at h
            rw [rVar_append R h4]
            simp only at h ⊢
            cases h5 : rVal A p4 with
            | none => rw [h5] at h; cases h
            | some y5 =>
              obtain ⟨v, p5⟩ := y5
              rw [h5] at h
              rw [rVal_append R h5]
              exact h

theorem rEnts_append {A : List UInt8} (R : List UInt8) {p : Nat} : ∀ {k q : Nat} {es : List Ent}, rEnts A p k = some (es, q) → rEnts (A ++ R) p k = some (es, q)
  | 0, q, es, h => h
  | k + 1, q, es, h => by
    unfold rEnts at h ⊢
    cases h1 : rEnts A p k with
    | none => rw [h1] at h; cases h
    | some y =>
      obtain ⟨es1, q1⟩ := y
      rw [h1] at h
      rw [rEnts_append R h1]
      simp only at h ⊢
      cases h2 : rEnt A q1 with
      | none => rw [h2] at h; cases h
      | some y2 =>
        obtain ⟨e, r⟩ := y2
        rw [h2] at h
        rw [rEnt_append R h2]
        exact h

theorem rHead_append {A : List UInt8} (R : List UInt8) {y : (Nat × Nat × Nat × Option (Nat × Nat) × Nat) × Nat} (h : rHead A = some y) : rHead (A ++ R) = some y := by
  unfold rHead at h ⊢
  cases h1 : rVar A 1 with
  | none => rw [h1] at h; cases h
  | some y1 =>
    obtain ⟨s, p1⟩ := y1
    rw [h1] at h
    rw [rVar_append R h1]
    simp only at h ⊢
    cases h2 : rVar A p1 with
    | none => rw [h2] at h; cases h
    | some y2 =>
      obtain ⟨x, p2⟩ := y2
      rw [h2] at h
      rw [rVar_append R h2]
      simp only at h ⊢
      cases h3 : rVar A p2 with
      | none => rw [h3] at h; cases h
      | some y3 =>
        obtain ⟨b, p3⟩ := y3
        rw [h3] at h
        rw [rVar_append R h3]
        simp only at h ⊢
        cases h4 : rVal A p3 with
        | none => rw [h4] at h; cases h
        | some y4 =>
          obtain ⟨a, p4⟩ := y4
          rw [h4] at h
          rw [rVal_append R h4]
          simp only at h ⊢
          cases h5 : rVar A p4 with
          | none => rw [h5] at h; cases h
          | some y5 =>
            obtain ⟨v, p5⟩ := y5
            rw [h5] at h
            rw [rVar_append R h5]
            exact h

/-- What an accepted list bears. -/
theorem decodeM_parts {L : List UInt8} {m : Msg} (h : decodeM L = some m) : ∃ b r v1 v2 v3 x4 v5 p es, L = b :: r ∧ typOk (b.toNat % 128) = true ∧ rHead L = some ((v1, v2, v3, x4, v5), p) ∧ rEnts L p v5 = some (es, L.length) ∧ m = ⟨b.toNat % 128, decide (128 ≤ b.toNat), v1, v2, v3, x4, es⟩ := by
  unfold decodeM at h
  cases L with
  | nil => cases h
  | cons b r =>
    simp only at h
    cases ht : typOk (b.toNat % 128) with
    | false => rw [ht, if_neg (by simp)] at h; cases h
    | true =>
      rw [ht, if_pos rfl] at h
      cases h1 : rHead (b :: r) with
      | none => rw [h1] at h; cases h
      | some y =>
        obtain ⟨⟨v1, v2, v3, x4, v5⟩, p⟩ := y
        rw [h1] at h
        simp only at h
        cases h2 : rEnts (b :: r) p v5 with
        | none => rw [h2] at h; cases h
        | some z =>
          obtain ⟨es, q⟩ := z
          rw [h2] at h
          simp only at h
          by_cases hq : q = (b :: r).length
          · rw [if_pos hq] at h
            subst hq
            exact ⟨b, r, v1, v2, v3, x4, v5, p, es, rfl, ht, rfl, h2, (Option.some.inj h).symm⟩
          · rw [if_neg hq] at h; cases h

theorem prefix_free {A R : List UInt8} {m m' : Msg} (hR : R ≠ []) (h1 : decodeM (A ++ R) = some m) (h2 : decodeM A = some m') : False := by
  obtain ⟨b, r, v1, v2, v3, x4, v5, p, es, _, _, hh, he, _⟩ := decodeM_parts h2
  obtain ⟨b', r', u1, u2, u3, y4, u5, p', es', _, _, hh', he', _⟩ := decodeM_parts h1
  rw [rHead_append R hh] at hh'
  cases hh'
  rw [rEnts_append R he] at he'
  have := (Prod.mk.inj (Option.some.inj he')).2
  rw [List.length_append] at this
  exact hR (List.length_eq_zero_iff.1 (by omega))
end Go.Proofs.Qxb6616623aFmt
