/-
  What every entry of an accepted message keeps.
-/
import Derived.Test.Qxb6616623aFmtPre
namespace Go.Proofs.Qxb6616623aFmt
open Go.Lib

def InL (L : List UInt8) (v : Option (Nat × Nat)) : Prop := ∀ s k, v = some (s, k) → s + k ≤ L.length

theorem rVal_in {L : List UInt8} {p q : Nat} {v : Option (Nat × Nat)} (h : rVal L p = some (v, q)) : InL L v := by
  intro s k hv
  obtain ⟨_, h2, h3⟩ := rVal_some h
  have := (h3 s k hv).1
  omega

theorem rEnt_in {L : List UInt8} {p q : Nat} {e : Ent} (h : rEnt L p = some (e, q)) : e.space ≤ 7 ∧ InL L e.val := by
  refine ⟨(rEnt_some h).2.2, ?_⟩
  unfold rEnt at h
  cases h1 : rVar L p with
  | none => rw [h1] at h; cases h
  | some y1 =>
    obtain ⟨s, p1⟩ := y1
    rw [h1] at h
    simp only at h
    cases h2 : rVar L p1 with
    | none => rw [h2] at h; cases h
    | some y2 =>
      obtain ⟨x, p2⟩ := y2
      rw [h2] at h
      simp only at h
      by_cases h7 : 7 < s
      · rw [if_pos h7] at h; cases h
      · rw [if_neg h7] at h
        cases h3 : rVar L p2 with
        | none => rw [h3] at h; cases h
        | some y3 =>
          obtain ⟨b, p3⟩ := y3
          rw [h3] at h
          simp only at h
          cases h4 : rVar L p3 with
          | none => rw [h4] at h; cases h
          | some y4 =>
            obtain ⟨a, p4⟩ := y4
            rw [h4] at h
            simp only at h
            cases h5 : rVal L p4 with
            | none => rw [h5] at h; cases h
            | some y5 =>
              obtain ⟨v, p5⟩ := y5
              rw [h5] at h
              simp only [Option.some.injEq, Prod.mk.injEq] at h
              obtain ⟨rfl, _⟩ := h
              exact rVal_in h5

theorem rEnts_in {L : List UInt8} {p : Nat} : ∀ {k q : Nat} {es : List Ent}, rEnts L p k = some (es, q) → ∀ e ∈ es, e.space ≤ 7 ∧ InL L e.val
  | 0, q, es, h => by
    simp only [rEnts, Option.some.injEq, Prod.mk.injEq] at h
    obtain ⟨rfl, _⟩ := h
    intro e he
    cases he
  | k + 1, q, es, h => by
    unfold rEnts at h
    cases h1 : rEnts L p k with
    | none => rw [h1] at h; cases h
    | some y =>
      obtain ⟨es1, q1⟩ := y
      rw [h1] at h
      simp only at h
      cases h2 : rEnt L q1 with
      | none => rw [h2] at h; cases h
      | some y2 =>
        obtain ⟨e', r⟩ := y2
        rw [h2] at h
        simp only [Option.some.injEq, Prod.mk.injEq] at h
        obtain ⟨rfl, _⟩ := h
        intro e he
        rw [List.mem_append] at he
        rcases he with he | he
        · exact rEnts_in h1 e he
        · rw [List.mem_singleton] at he
          subst he
          exact rEnt_in h2

theorem rHead_in {L : List UInt8} {v1 v2 v3 v5 p : Nat} {v : Option (Nat × Nat)} (h : rHead L = some ((v1, v2, v3, v, v5), p)) : InL L v := by
  unfold rHead at h
  cases h1 : rVar L 1 with
  | none => rw [h1] at h; cases h
  | some y1 =>
    obtain ⟨s, p1⟩ := y1
    rw [h1] at h
    simp only at h
    cases h2 : rVar L p1 with
    | none => rw [h2] at h; cases h
    | some y2 =>
      obtain ⟨x, p2⟩ := y2
      rw [h2] at h
      simp only at h
      cases h3 : rVar L p2 with
      | none => rw [h3] at h; cases h
      | some y3 =>
        obtain ⟨b, p3⟩ := y3
        rw [h3] at h
        simp only at h
        cases h4 : rVal L p3 with
        | none => rw [h4] at h; cases h
        | some y4 =>
          obtain ⟨a, p4⟩ := y4
          rw [h4] at h
          simp only at h
          cases h5 : rVar L p4 with
          | none => rw [h5] at h; cases h
          | some y5 =>
            obtain ⟨c, p5⟩ := y5
            rw [h5] at h
            simp only [Option.some.injEq, Prod.mk.injEq] at h
            obtain ⟨⟨_, _, _, rfl, _⟩, _⟩ := h
            exact rVal_in h4

theorem decodeM_in {L : List UInt8} {m : Msg} (h : decodeM L = some m) : InL L m.val ∧ ∀ e ∈ m.ents, e.space ≤ 7 ∧ InL L e.val := by
  obtain ⟨b, r, v1, v2, v3, x4, v5, p, es, _, _, hh, he, rfl⟩ := decodeM_parts h
  exact ⟨rHead_in hh, rEnts_in he⟩
end Go.Proofs.Qxb6616623aFmt
