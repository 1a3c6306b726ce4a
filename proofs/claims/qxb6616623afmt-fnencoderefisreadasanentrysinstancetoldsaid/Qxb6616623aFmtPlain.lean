/-
  The plain law on varints: what AppendUvarint writes, Uvarint reads back, whatever follows. No Go text is run here.
-/
import Derived.Test.Qxb6616623aFmtSpec
namespace Go.Proofs.Qxb6616623aFmt
open Go.Lib

theorem dec_enc : ∀ (k i acc x : Nat) (r : List UInt8), x < 128 ^ (k + 1) → x * 2 ^ (7 * i) < 18446744073709551616 → i ≤ 9 →
    uvarintFrom i acc (uvarint x ++ r) = (acc + x * 2 ^ (7 * i), (i : Int) + ((uvarint x).length : Int))
  | k, i, acc, x, r, h1, h2, h3 => by
    by_cases hx : x < 128
    · rw [uvarint_small hx]
      have hb : (x.toUInt8).toNat = x := by simp; omega
      have hi : ¬ i = 10 := by omega
      have h9 : ¬ (i = 9 ∧ 1 < x) := by
        rintro ⟨rfl, hh⟩
        simp only [Nat.reduceMul, Nat.reducePow] at h2
        omega
      simp only [List.cons_append, List.nil_append, uvarintFrom, hb]
      rw [if_neg hi, if_pos hx, if_neg h9]
      simp
    · have hx' : 128 ≤ x := by omega
      rw [uvarint_big hx']
      have hb : ((x % 128 + 128).toUInt8).toNat = x % 128 + 128 := by simp; omega
      have hi : ¬ i = 10 := by omega
      have hn : ¬ (x % 128 + 128 < 128) := by omega
      have hm : (x % 128 + 128) % 128 = x % 128 := by omega
      simp only [List.cons_append, uvarintFrom, hb]
      rw [if_neg hi, if_neg hn, hm]
      cases k with
      | zero => simp at h1; omega
      | succ k =>
        have hp : 2 ^ (7 * (i + 1)) = 128 * 2 ^ (7 * i) := by rw [Nat.mul_add, Nat.pow_add]; simp [Nat.mul_comm]
        have hi8 : i ≤ 8 := by
          rcases (show i = 9 ∨ i ≤ 8 by omega) with rfl | h
          · simp only [Nat.reduceMul, Nat.reducePow] at h2; omega
          · exact h
        have hq : x / 128 * (128 * 2 ^ (7 * i)) + x % 128 * 2 ^ (7 * i) = x * 2 ^ (7 * i) := by
          rw [← Nat.mul_assoc, ← Nat.add_mul]
          congr 1
          omega
        have hk : x / 128 < 128 ^ (k + 1) := by
          rw [Nat.div_lt_iff_lt_mul (by omega)]
          rw [Nat.pow_succ] at h1
          exact h1
        rw [dec_enc k (i + 1) _ (x / 128) r hk (by rw [hp]; omega) (by omega), hp]
        refine Prod.ext ?_ ?_
        · show acc + x % 128 * 2 ^ (7 * i) + x / 128 * (128 * 2 ^ (7 * i)) = acc + x * 2 ^ (7 * i)
          omega
        · simp only [List.length_cons]
          omega

theorem dec_of_enc (x : Nat) (r : List UInt8) (h : x < 18446744073709551616) : uvarintDec (uvarint x ++ r) = (x, ((uvarint x).length : Int)) := by
  unfold uvarintDec
  rw [dec_enc 9 0 0 x r (Nat.lt_of_lt_of_le h (by decide)) (by simpa using h) (by omega)]
  simp

/-- A number laid at place p is read there. -/
theorem rVar_at {L r : List UInt8} {p x : Nat} (h : x < 18446744073709551616) (hd : L.drop p = uvarint x ++ r) : rVar L p = some (x, p + (uvarint x).length) := by
  have := uvarint_pos x
  unfold rVar
  rw [hd, dec_of_enc x r h, if_pos (by show (0 : Int) < ((uvarint x).length : Int); omega)]
  rfl
theorem drop_at {L r : List UInt8} {p x : Nat} (hd : L.drop p = uvarint x ++ r) : L.drop (p + (uvarint x).length) = r := by
  rw [← List.drop_drop, hd, List.drop_left]
theorem rVal_zero {L r : List UInt8} {p : Nat} (hd : L.drop p = uvarint 0 ++ r) : rVal L p = some (none, p + (uvarint 0).length) := by
  unfold rVal
  rw [rVar_at (by omega) hd]
  rfl
theorem uv0 : uvarint 0 = [0] := uvarint_small (by omega)
theorem uv1 : uvarint 1 = [1] := uvarint_small (by omega)

/-- The bytes that the law lays: the header of an empty message of type 5 with one entry; the entry's instance; three zeros. -/
def refMsg (S i : Nat) : List UInt8 := [5, 0, 0, 0, 0, 1] ++ (uvarint S ++ uvarint i) ++ [0, 0, 0]

theorem refMsg_length (S i : Nat) : (refMsg S i).length = 9 + (uvarint S).length + (uvarint i).length := by
  unfold refMsg
  simp only [List.length_append, List.length_cons, List.length_nil]
  omega

theorem refMsg_head (S i : Nat) : rHead (refMsg S i) = some ((0, 0, 0, none, 1), 6) := by
  have d1 : (refMsg S i).drop 1 = uvarint 0 ++ ([0, 0, 0, 1] ++ ((uvarint S ++ uvarint i) ++ [0, 0, 0])) := by rw [uv0]; rfl
  have d2 : (refMsg S i).drop 2 = uvarint 0 ++ ([0, 0, 1] ++ ((uvarint S ++ uvarint i) ++ [0, 0, 0])) := by rw [uv0]; rfl
  have d3 : (refMsg S i).drop 3 = uvarint 0 ++ ([0, 1] ++ ((uvarint S ++ uvarint i) ++ [0, 0, 0])) := by rw [uv0]; rfl
  have d4 : (refMsg S i).drop 4 = uvarint 0 ++ ([1] ++ ((uvarint S ++ uvarint i) ++ [0, 0, 0])) := by rw [uv0]; rfl
  have d5 : (refMsg S i).drop 5 = uvarint 1 ++ ((uvarint S ++ uvarint i) ++ [0, 0, 0]) := by rw [uv1]; rfl
  have e1 := rVar_at (by omega) d1
  have e2 := rVar_at (by omega) d2
  have e3 := rVar_at (by omega) d3
  have e4 := rVal_zero d4
  have e5 := rVar_at (by omega) d5
  rw [uv0] at e1 e2 e3 e4
  rw [uv1] at e5
  simp only [List.length_cons, List.length_nil, Nat.zero_add, Nat.reduceAdd] at e1 e2 e3 e4 e5
  unfold rHead
  simp only [e1, e2, e3, e4, e5]

theorem refMsg_ents (S i : Nat) (hS : S < 18446744073709551616) (hi : i < 18446744073709551616) : rEnts (refMsg S i) 6 1 = if 7 < S then none else some ([⟨S, i, 0, 0, none⟩], (refMsg S i).length) := by
  have d1 : (refMsg S i).drop 6 = uvarint S ++ (uvarint i ++ [0, 0, 0]) := by
    rw [← List.append_assoc]; rfl
  have d2 := drop_at d1
  have d3 := drop_at d2
  have d3' : (refMsg S i).drop (6 + (uvarint S).length + (uvarint i).length) = uvarint 0 ++ [0, 0] := by rw [d3, uv0]; rfl
  have d4 := drop_at d3'
  have d4' : (refMsg S i).drop (6 + (uvarint S).length + (uvarint i).length + (uvarint 0).length) = uvarint 0 ++ [0] := by rw [d4, uv0]; rfl
  have d5 := drop_at d4'
  have d5' : (refMsg S i).drop (6 + (uvarint S).length + (uvarint i).length + (uvarint 0).length + (uvarint 0).length) = uvarint 0 ++ [] := by rw [d5, uv0]; rfl
  have e1 := rVar_at hS d1
  have e2 := rVar_at hi d2
  have e3 := rVar_at (by omega) d3'
  have e4 := rVar_at (by omega) d4'
  have e5 := rVal_zero d5'
  unfold rEnts rEnts rEnt
  simp only [e1, e2, e3, e4, e5]
  by_cases h7 : 7 < S
  · simp only [h7, if_true]
  · simp only [h7, if_false, List.nil_append]
    rw [refMsg_length, uv0]
    simp only [List.length_cons, List.length_nil]
    congr 2
    omega

theorem refMsg_decode (S i : Nat) (hS : S < 18446744073709551616) (hi : i < 18446744073709551616) : decodeM (refMsg S i) = if 7 < S then none else some ⟨5, false, 0, 0, 0, none, [⟨S, i, 0, 0, none⟩]⟩ := by
  have hh := refMsg_head S i
  have he := refMsg_ents S i hS hi
  have hL : refMsg S i = 5 :: ([0, 0, 0, 0, 1] ++ (uvarint S ++ uvarint i) ++ [0, 0, 0]) := rfl
  rw [hL] at hh he ⊢
  unfold decodeM
  have ht : typOk ((5 : UInt8).toNat % 128) = true := by decide
  simp only [ht, if_true, hh, he]
  by_cases h7 : 7 < S
  · simp only [h7, if_true]
  · simp only [h7, if_false, if_true]
    rfl
end Go.Proofs.Qxb6616623aFmt
