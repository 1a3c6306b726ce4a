/-
  The plain law on varints: what AppendUvarint writes, Uvarint reads back, whatever follows. No Go text is run here.
-/
import Derived.Lib.Varint
import Derived.Lib.VarintDec
namespace Go.Proofs.Qxb6616623a
open Go.Lib

theorem dec_enc : ∀ (k i acc x : Nat) (r : List UInt8), x < 128 ^ (k + 1) → x * 2 ^ (7 * i) < 18446744073709551616 → i ≤ 9 →
    uvarintFrom i acc (uvarint x ++ r) = (acc + x * 2 ^ (7 * i), (i : Int) + ((uvarint x).length : Int))
  | k, i, acc, x, r, h1, h2, h3 => by
    by_cases hx : x < 128
    · rw [uvarint_small hx]
      have hb : (x.toUInt8).toNat = x := by simp; omega
      have hi : ¬ i = 10 := by omega
      have h9 : ¬ (i = 9 ∧ 1 < x) := by
        rintro ⟨rfl, hh⟩
        simp only [Nat.reduceMul, Nat.reducePow] at h2
        omega
      simp only [List.cons_append, List.nil_append, uvarintFrom, hb]
      rw [if_neg hi, if_pos hx, if_neg h9]
      simp
    · have hx' : 128 ≤ x := by omega
      rw [uvarint_big hx']
      have hb : ((x % 128 + 128).toUInt8).toNat = x % 128 + 128 := by simp; omega
      have hi : ¬ i = 10 := by omega
      have hn : ¬ (x % 128 + 128 < 128) := by omega
      have hm : (x % 128 + 128) % 128 = x % 128 := by omega
      simp only [List.cons_append, uvarintFrom, hb]
      rw [if_neg hi, if_neg hn, hm]
      cases k with
      | zero => simp at h1; omega
      | succ k =>
        have hp : 2 ^ (7 * (i + 1)) = 128 * 2 ^ (7 * i) := by rw [Nat.mul_add, Nat.pow_add]; simp [Nat.mul_comm]
        have hi8 : i ≤ 8 := by
          rcases (show i = 9 ∨ i ≤ 8 by omega) with rfl | h
          · simp only [Nat.reduceMul, Nat.reducePow] at h2; omega
          · exact h
        have hq : x / 128 * (128 * 2 ^ (7 * i)) + x % 128 * 2 ^ (7 * i) = x * 2 ^ (7 * i) := by
          rw [← Nat.mul_assoc, ← Nat.add_mul]
          congr 1
          omega
        have hk : x / 128 < 128 ^ (k + 1) := by
          rw [Nat.div_lt_iff_lt_mul (by omega)]
          rw [Nat.pow_succ] at h1
          exact h1
        rw [dec_enc k (i + 1) _ (x / 128) r hk (by rw [hp]; omega) (by omega), hp]
        refine Prod.ext ?_ ?_
        · show acc + x % 128 * 2 ^ (7 * i) + x / 128 * (128 * 2 ^ (7 * i)) = acc + x * 2 ^ (7 * i)
          omega
        · simp only [List.length_cons]
          omega

theorem dec_of_enc (x : Nat) (r : List UInt8) (h : x < 18446744073709551616) : uvarintDec (uvarint x ++ r) = (x, ((uvarint x).length : Int)) := by
  unfold uvarintDec
  rw [dec_enc 9 0 0 x r (Nat.lt_of_lt_of_le h (by decide)) (by simpa using h) (by omega)]
  simp
end Go.Proofs.Qxb6616623a
