/-
  The plain law on '-' put ahead of a text.
-/
import Derived.Test.Qxb6616563aPlain
namespace Go.Proofs.Qxb6616563a

def negF (f : Nat → Nat) : Nat → Nat
  | 0 => 45
  | i + 1 => f i

theorem sgn_neg (f : Nat → Nat) (n : Nat) : sgn (negF f) (n + 1) = 1 := by
  unfold sgn; rw [if_pos ⟨by omega, rfl⟩]

theorem stop_neg (p : Nat → Bool) (f : Nat → Nat) (n i : Nat) (h : i ≤ n) : stop p (negF f) (n + 1) (i + 1) = stop p f n i + 1 := by
  obtain ⟨a, b, c, d⟩ := stop_spec p f n i h
  refine stop_eq (by omega) (fun j x y => ?_) (by omega) ?_
  · obtain ⟨j', rfl⟩ : ∃ j', j = j' + 1 := ⟨j - 1, by omega⟩
    exact c j' (by omega) (by omega)
  · rcases d with d | d
    · left; omega
    · right; exact d

theorem dec_neg (f : Nat → Nat) (n : Nat) : decB (negF f) (n + 1) 1 = decB f n 0 := by
  have h1 := stop_neg dig f n 0 (Nat.zero_le _)
  obtain ⟨a, b, c, d⟩ := stop_spec dig f n 0 (Nat.zero_le _)
  rw [Nat.zero_add] at h1
  generalize he : stop dig f n 0 = e at *
  by_cases e1 : e = 0
  · rw [dec_none (by rw [h1, e1]), dec_none (by rw [he, e1])]
  · by_cases e2 : e = n
    · rw [dec_whole he e1 e2, dec_whole h1 (by omega) (by omega)]
    · by_cases e3 : f e = 46
      · have h2 := stop_neg dig f n (e + 1) (by omega)
        rw [dec_frac he e1 e2 e3 rfl, dec_frac h1 (by omega) (by omega) e3 h2]
        rw [Bool.eq_iff_iff]
        simp
      · rw [dec_nodot he e1 e2 e3, dec_nodot h1 (by omega) (by omega) e3]

theorem allZ_neg (f : Nat → Nat) (n : Nat) : allZ (negF f) (n + 1) = allZ f n := by
  rw [Bool.eq_iff_iff]
  unfold allZ
  simp only [decide_eq_true_eq]
  constructor
  · intro h j hj hd
    exact h (j + 1) (by omega) hd
  · intro h j hj hd
    cases j with
    | zero => exact absurd (show dig 45 = true from hd) (by decide)
    | succ j => exact h j (by omega) hd
end Go.Proofs.Qxb6616563a
