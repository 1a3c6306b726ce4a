/-
  The plain side of seat b6616623aF: what the wire grammar reads, by positions in the list of bytes. No Go text is run here.
-/
import Derived.Lib.Varint
import Derived.Lib.VarintDec
namespace Go.Proofs.Qxb6616623aFmt
open Go.Lib

/-- A number at place p: its value, the place behind it. -/
def rVar (L : List UInt8) (p : Nat) : Option (Nat × Nat) :=
  if 0 < (uvarintDec (L.drop p)).2 then some ((uvarintDec (L.drop p)).1, p + (uvarintDec (L.drop p)).2.toNat) else none

/-- A value at place p: none, or where it lies and how long it is; the place behind it. -/
def rVal (L : List UInt8) (p : Nat) : Option (Option (Nat × Nat) × Nat) :=
  match rVar L p with
  | none => none
  | some (n, q) => if n = 0 then some (none, q) else if L.length - q < n - 1 then none else some (some (q, n - 1), q + (n - 1))

structure Ent where
  space : Nat
  index : Nat
  ballot : Nat
  accepted : Nat
  val : Option (Nat × Nat)

def rEnt (L : List UInt8) (p : Nat) : Option (Ent × Nat) :=
  match rVar L p with
  | none => none
  | some (s, p1) =>
    match rVar L p1 with
    | none => none
    | some (x, p2) =>
      if 7 < s then none else
      match rVar L p2 with
      | none => none
      | some (b, p3) =>
        match rVar L p3 with
        | none => none
        | some (a, p4) =>
          match rVal L p4 with
          | none => none
          | some (v, p5) => some (⟨s, x, b, a, v⟩, p5)

def rEnts (L : List UInt8) (p : Nat) : Nat → Option (List Ent × Nat)
  | 0 => some ([], p)
  | k + 1 =>
    match rEnts L p k with
    | none => none
    | some (es, q) =>
      match rEnt L q with
      | none => none
      | some (e, r) => some (es ++ [e], r)

theorem uvarintFrom_len : ∀ (l : List UInt8) (i acc : Nat), 0 < (uvarintFrom i acc l).2 → (i : Int) < (uvarintFrom i acc l).2 ∧ (uvarintFrom i acc l).2 ≤ (i : Int) + l.length
  | [], i, acc, h => by simp [uvarintFrom] at h
  | b :: r, i, acc, h => by
    unfold uvarintFrom at h ⊢
    by_cases h1 : i = 10
    · rw [if_pos h1] at h; omega
    · rw [if_neg h1] at h ⊢
      by_cases h2 : b.toNat < 128
      · rw [if_pos h2] at h ⊢
        by_cases h3 : i = 9 ∧ 1 < b.toNat
        · rw [if_pos h3] at h; omega
        · rw [if_neg h3]; simp only [List.length_cons]; omega
      · rw [if_neg h2] at h ⊢
        have := uvarintFrom_len r (i + 1) _ h
        simp only [List.length_cons]
        omega

theorem uvarintDec_len (l : List UInt8) (h : 0 < (uvarintDec l).2) : (uvarintDec l).2 ≤ l.length := by
  have := (uvarintFrom_len l 0 0 h).2
  unfold uvarintDec
  omega

theorem rVar_some {L : List UInt8} {p v q : Nat} (h : rVar L p = some (v, q)) : p < q ∧ q ≤ L.length ∧ v < 18446744073709551616 ∧ uvarintDec (L.drop p) = (v, ((q - p : Nat) : Int)) := by
  unfold rVar at h
  by_cases h1 : 0 < (uvarintDec (L.drop p)).2
  · rw [if_pos h1] at h
    have h2 := uvarintDec_len _ h1
    rw [List.length_drop] at h2
    have h3 := uvarintDec_lt (L.drop p)
    simp only [Option.some.injEq, Prod.mk.injEq] at h
    obtain ⟨rfl, rfl⟩ := h
    refine ⟨by omega, by omega, h3, ?_⟩
    apply Prod.ext
    · rfl
    · simp only; omega
  · rw [if_neg h1] at h; cases h

theorem rVar_none {L : List UInt8} {p : Nat} (h : rVar L p = none) : (uvarintDec (L.drop p)).2 ≤ 0 := by
  unfold rVar at h
  by_cases h1 : 0 < (uvarintDec (L.drop p)).2
  · rw [if_pos h1] at h; cases h
  · omega

theorem rVal_some {L : List UInt8} {p q : Nat} {v : Option (Nat × Nat)} (h : rVal L p = some (v, q)) : p < q ∧ q ≤ L.length ∧ ∀ s k, v = some (s, k) → s + k = q ∧ p < s := by
  unfold rVal at h
  cases hv : rVar L p with
  | none => rw [hv] at h; cases h
  | some x =>
    obtain ⟨n, q'⟩ := x
    rw [hv] at h
    have := rVar_some hv
    simp only at h
    by_cases h1 : n = 0
    · rw [if_pos h1] at h
      simp only [Option.some.injEq, Prod.mk.injEq] at h
      obtain ⟨rfl, rfl⟩ := h
      exact ⟨this.1, this.2.1, fun s k hh => by cases hh⟩
    · rw [if_neg h1] at h
      by_cases h2 : L.length - q' < n - 1
      · rw [if_pos h2] at h; cases h
      · rw [if_neg h2] at h
        simp only [Option.some.injEq, Prod.mk.injEq] at h
        obtain ⟨rfl, rfl⟩ := h
        refine ⟨by omega, by omega, fun s k hh => ?_⟩
        simp only [Option.some.injEq, Prod.mk.injEq] at hh
        omega

theorem rEnt_some {L : List UInt8} {p q : Nat} {e : Ent} (h : rEnt L p = some (e, q)) : p + 5 ≤ q ∧ q ≤ L.length ∧ e.space ≤ 7 := by
  unfold rEnt at h
  cases h1 : rVar L p with
  | none => rw [h1] at h; cases h
  | some x1 =>
    obtain ⟨s, p1⟩ := x1
    rw [h1] at h
    simp only at h
    cases h2 : rVar L p1 with
    | none => rw [h2] at h; cases h
    | some x2 =>
      obtain ⟨x, p2⟩ := x2
      rw [h2] at h
      simp only at h
      by_cases h7 : 7 < s
      · rw [if_pos h7] at h; cases h
      · rw [if_neg h7] at h
        cases h3 : rVar L p2 with
        | none => rw [h3] at h; cases h
        | some x3 =>
          obtain ⟨b, p3⟩ := x3
          rw [h3] at h
          simp only at h
          cases h4 : rVar L p3 with
          | none => rw [h4] at h; cases h
          | some x4 =>
            obtain ⟨a, p4⟩ := x4
            rw [h4] at h
            simp only at h
            cases h5 : rVal L p4 with
            | none => rw [h5] at h; cases h
            | some x5 =>
              obtain ⟨v, p5⟩ := x5
              rw [h5] at h
              simp only [Option.some.injEq, Prod.mk.injEq] at h
              obtain ⟨rfl, rfl⟩ := h
              have := rVar_some h1
              have := rVar_some h2
              have := rVar_some h3
              have := rVar_some h4
              have := rVal_some h5
              exact ⟨by omega, by omega, by show s ≤ 7; omega⟩

theorem rEnts_some {L : List UInt8} {p : Nat} (hp : p ≤ L.length) : ∀ {k q : Nat} {es : List Ent}, rEnts L p k = some (es, q) → p + 5 * k ≤ q ∧ q ≤ L.length ∧ es.length = k
  | 0, q, es, h => by
    simp only [rEnts, Option.some.injEq, Prod.mk.injEq] at h
    obtain ⟨rfl, rfl⟩ := h
    exact ⟨by omega, hp, rfl⟩
  | k + 1, q, es, h => by
    unfold rEnts at h
    cases h1 : rEnts L p k with
    | none => rw [h1] at h; cases h
    | some x =>
      obtain ⟨es', q'⟩ := x
      rw [h1] at h
      simp only at h
      cases h2 : rEnt L q' with
      | none => rw [h2] at h; cases h
      | some y =>
        obtain ⟨e, r⟩ := y
        rw [h2] at h
        simp only [Option.some.injEq, Prod.mk.injEq] at h
        obtain ⟨rfl, rfl⟩ := h
        have i1 := rEnts_some hp h1
        have i2 := rEnt_some h2
        refine ⟨by omega, by omega, ?_⟩
        rw [List.length_append, i1.2.2]
        rfl

theorem rEnts_none_succ {L : List UInt8} {p k : Nat} (h : rEnts L p k = none) : rEnts L p (k + 1) = none := by
  unfold rEnts; rw [h]
theorem rEnts_none_le {L : List UInt8} {p k : Nat} (h : rEnts L p k = none) : ∀ m, rEnts L p (k + m) = none
  | 0 => h
  | m + 1 => rEnts_none_succ (rEnts_none_le h m)

structure Msg where
  typ : Nat
  synced : Bool
  tag : Nat
  place : Nat
  ballot : Nat
  val : Option (Nat × Nat)
  ents : List Ent

/-- The whole message behind its first byte: tag, place, ballot, value, count; the place behind them. -/
def rHead (L : List UInt8) : Option ((Nat × Nat × Nat × Option (Nat × Nat) × Nat) × Nat) :=
  match rVar L 1 with
  | none => none
  | some (tag, p1) =>
    match rVar L p1 with
    | none => none
    | some (place, p2) =>
      match rVar L p2 with
      | none => none
      | some (ballot, p3) =>
        match rVal L p3 with
        | none => none
        | some (v, p4) =>
          match rVar L p4 with
          | none => none
          | some (count, p5) => some ((tag, place, ballot, v, count), p5)

def typOk (t : Nat) : Bool := decide (1 ≤ t) && decide (t ≤ 21)

def decodeM (L : List UInt8) : Option Msg :=
  match L with
  | [] => none
  | b :: r =>
    if typOk (b.toNat % 128) = true then
      match rHead (b :: r) with
      | none => none
      | some ((tag, place, ballot, v, count), p) =>
        match rEnts (b :: r) p count with
        | none => none
        | some (es, q) => if q = (b :: r).length then some ⟨b.toNat % 128, decide (128 ≤ b.toNat), tag, place, ballot, v, es⟩ else none
    else none
end Go.Proofs.Qxb6616623aFmt
