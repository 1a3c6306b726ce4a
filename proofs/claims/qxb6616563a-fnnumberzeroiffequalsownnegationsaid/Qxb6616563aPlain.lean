/-
  The plain law under the two statements of seat b6616563a: no Go text is run here. A text is 'f : Nat → Nat' (its bytes) with its length n.
-/
import Derived.Below
namespace Go.Proofs.Qxb6616563a

def dig (n : Nat) : Bool := decide (48 ≤ n) && decide (n ≤ 57)
def zer (n : Nat) : Bool := n == 48

/-- The first place from i on that is the end or where p does not hold. -/
def runFrom (p : Nat → Bool) (f : Nat → Nat) (n : Nat) : Nat → Nat → Nat
  | 0, i => i
  | k + 1, i => if i < n then (if p (f i) = true then runFrom p f n k (i + 1) else i) else i
def stop (p : Nat → Bool) (f : Nat → Nat) (n i : Nat) : Nat := runFrom p f n (n - i) i

theorem runFrom_eq (p : Nat → Bool) (f : Nat → Nat) (n : Nat) : ∀ (k i e : Nat), n ≤ i + k → i ≤ e → (∀ j, i ≤ j → j < e → p (f j) = true) → e ≤ n → (e = n ∨ p (f e) = false) → runFrom p f n k i = e
  | 0, i, e, h1, h2, _, h4, _ => by simp only [runFrom]; omega
  | k + 1, i, e, h1, h2, h3, h4, h5 => by
    unfold runFrom
    by_cases hi : i < n
    · rw [if_pos hi]
      by_cases he : i = e
      · subst he
        rcases h5 with h5 | h5
        · omega
        · rw [if_neg (by rw [h5]; simp)]
      · rw [if_pos (h3 i (by omega) (by omega))]
        exact runFrom_eq p f n k (i + 1) e (by omega) (by omega) (fun j a b => h3 j (by omega) b) h4 h5
    · rw [if_neg hi]; omega

theorem stop_eq {p : Nat → Bool} {f : Nat → Nat} {n i e : Nat} (h2 : i ≤ e) (h3 : ∀ j, i ≤ j → j < e → p (f j) = true) (h4 : e ≤ n) (h5 : e = n ∨ p (f e) = false) : stop p f n i = e :=
  runFrom_eq p f n (n - i) i e (by omega) h2 h3 h4 h5

theorem runFrom_spec (p : Nat → Bool) (f : Nat → Nat) (n : Nat) : ∀ (k i : Nat), n ≤ i + k → i ≤ n → ∃ e, runFrom p f n k i = e ∧ i ≤ e ∧ e ≤ n ∧ (∀ j, i ≤ j → j < e → p (f j) = true) ∧ (e = n ∨ p (f e) = false)
  | 0, i, h1, h2 => ⟨i, rfl, Nat.le_refl _, h2, fun j a b => by omega, .inl (by omega)⟩
  | k + 1, i, h1, h2 => by
    unfold runFrom
    by_cases hi : i < n
    · rw [if_pos hi]
      by_cases hp : p (f i) = true
      · rw [if_pos hp]
        obtain ⟨e, h, a, b, c, d⟩ := runFrom_spec p f n k (i + 1) (by omega) (by omega)
        refine ⟨e, h, by omega, b, fun j x y => ?_, d⟩
        by_cases hj : j = i
        · subst hj; exact hp
        · exact c j (by omega) y
      · rw [if_neg hp]
        exact ⟨i, rfl, Nat.le_refl _, h2, fun j a b => by omega, .inr (by simpa using hp)⟩
    · rw [if_neg hi]
      exact ⟨i, rfl, Nat.le_refl _, h2, fun j a b => by omega, .inl (by omega)⟩

theorem stop_spec (p : Nat → Bool) (f : Nat → Nat) (n i : Nat) (h : i ≤ n) : i ≤ stop p f n i ∧ stop p f n i ≤ n ∧ (∀ j, i ≤ j → j < stop p f n i → p (f j) = true) ∧ (stop p f n i = n ∨ p (f (stop p f n i)) = false) := by
  obtain ⟨e, h', a, b, c, d⟩ := runFrom_spec p f n (n - i) i (by omega) h
  unfold stop
  rw [h']
  exact ⟨a, b, c, d⟩

def sgn (f : Nat → Nat) (n : Nat) : Nat := if 0 < n ∧ f 0 = 45 then 1 else 0
theorem sgn_le (f : Nat → Nat) (n : Nat) : sgn f n ≤ n ∧ sgn f n ≤ 1 := by unfold sgn; split <;> omega

/-- b1IsDecimal behind its sign. -/
def decB (f : Nat → Nat) (n s : Nat) : Bool :=
  if stop dig f n s = s then false
  else if stop dig f n s = n then true
  else if f (stop dig f n s) = 46 then decide (stop dig f n s + 1 < stop dig f n (stop dig f n s + 1)) && decide (stop dig f n (stop dig f n s + 1) = n)
  else false

theorem dec_none {f : Nat → Nat} {n s : Nat} (h : stop dig f n s = s) : decB f n s = false := by unfold decB; rw [if_pos h]
theorem dec_whole {f : Nat → Nat} {n s e : Nat} (h : stop dig f n s = e) (h1 : e ≠ s) (h2 : e = n) : decB f n s = true := by
  unfold decB; rw [h, if_neg h1, if_pos h2]
theorem dec_nodot {f : Nat → Nat} {n s e : Nat} (h : stop dig f n s = e) (h1 : e ≠ s) (h2 : e ≠ n) (h3 : f e ≠ 46) : decB f n s = false := by
  unfold decB; rw [h, if_neg h1, if_neg h2, if_neg h3]
theorem dec_frac {f : Nat → Nat} {n s e e2 : Nat} (h : stop dig f n s = e) (h1 : e ≠ s) (h2 : e ≠ n) (h3 : f e = 46) (h4 : stop dig f n (e + 1) = e2) : decB f n s = (decide (e + 1 < e2) && decide (e2 = n)) := by
  unfold decB; rw [h, if_neg h1, if_neg h2, if_pos h3, h4]

/-- b1DigitsAllZero. -/
def allZ (f : Nat → Nat) (n : Nat) : Bool := decide (∀ j, j < n → dig (f j) = true → f j = 48)

/-- What scanNumber hands back: the count C, the sign N, the lengths WL, FL of the two parts. -/
structure ScanOk (f : Nat → Nat) (n s C : Nat) (N : Bool) (WL FL : Nat) : Prop where
  fails : stop dig f n (stop zer f n s) = s → C = 0
  whole : stop dig f n (stop zer f n s) ≠ s → WL = stop dig f n (stop zer f n s) - stop zer f n s
  point : stop dig f n (stop zer f n s) ≠ s → stop dig f n (stop zer f n s) + 1 < n → f (stop dig f n (stop zer f n s)) = 46 → dig (f (stop dig f n (stop zer f n s) + 1)) = true →
    C = stop dig f n (stop dig f n (stop zer f n s) + 1) ∧ (FL = 0 ↔ ∀ j, stop dig f n (stop zer f n s) + 1 ≤ j → j < C → f j = 48)
  plain : stop dig f n (stop zer f n s) ≠ s → ¬ (stop dig f n (stop zer f n s) + 1 < n ∧ f (stop dig f n (stop zer f n s)) = 46 ∧ dig (f (stop dig f n (stop zer f n s) + 1)) = true) →
    C = stop dig f n (stop zer f n s) ∧ FL = 0
  sign : stop dig f n (stop zer f n s) ≠ s → N = (decide (s = 1) && (decide (0 < WL) || decide (0 < FL)))

theorem zer_dig (n : Nat) (h : zer n = true) : dig n = true := by
  simp [zer] at h; subst h; rfl

theorem stop_two (f : Nat → Nat) (n s : Nat) (h : s ≤ n) : stop dig f n (stop zer f n s) = stop dig f n s := by
  obtain ⟨a, b, c, d⟩ := stop_spec zer f n s h
  obtain ⟨a', b', c', d'⟩ := stop_spec dig f n (stop zer f n s) b
  refine (stop_eq (p := dig) (by omega) (fun j x y => ?_) b' d').symm
  by_cases hj : j < stop zer f n s
  · exact zer_dig _ (c j x hj)
  · exact c' j (by omega) y

theorem dig_dot (f : Nat → Nat) (j : Nat) (h : f j = 46) : dig (f j) = false := by rw [h]; rfl

/-- 'read' accepts exactly what b1IsDecimal accepts. -/
theorem read_iff {f : Nat → Nat} {n s C : Nat} {N : Bool} {WL FL : Nat} (hs : s ≤ n) (h : ScanOk f n s C N WL FL) : (C ≠ 0 ∧ C = n) ↔ decB f n s = true := by
  have h2 := stop_two f n s hs
  obtain ⟨a, b, c, d⟩ := stop_spec dig f n s hs
  obtain ⟨h3, h4, h5, h6, _⟩ := h
  rw [h2] at h3 h4 h5 h6
  generalize he : stop dig f n s = e at *
  by_cases e1 : e = s
  · have := h3 e1
    rw [dec_none (by rw [he, e1])]
    simp [this]
  · by_cases e2 : e = n
    · rw [dec_whole he e1 e2]
      have := h6 e1 (fun hh => by omega)
      simp only [iff_true]
      omega
    · by_cases e3 : f e = 46
      · obtain ⟨a', b', c', d'⟩ := stop_spec dig f n (e + 1) (by omega)
        rw [dec_frac he e1 e2 e3 rfl]
        by_cases e4 : e + 1 < n ∧ dig (f (e + 1)) = true
        · have := (h5 e1 e4.1 e3 e4.2).1
          have h7 : e + 1 < stop dig f n (e + 1) := by
            rcases Nat.lt_or_ge (e + 1) (stop dig f n (e + 1)) with h | h
            · exact h
            · have heq : stop dig f n (e + 1) = e + 1 := by omega
              rw [heq] at d'
              rcases d' with d' | d'
              · omega
              · rw [e4.2] at d'; cases d'
          simp only [Bool.and_eq_true, decide_eq_true_eq]
          omega
        · have := h6 e1 (fun hh => e4 ⟨hh.1, hh.2.2⟩)
          have h7 : stop dig f n (e + 1) = e + 1 := by
            by_cases h8 : e + 1 < n
            · refine stop_eq (Nat.le_refl _) (fun j x y => by omega) (by omega) (.inr ?_)
              by_cases h9 : dig (f (e + 1)) = true
              · exact absurd ⟨h8, h9⟩ e4
              · simpa using h9
            · refine stop_eq (Nat.le_refl _) (fun j x y => by omega) (by omega) (.inl (by omega))
          simp only [Bool.and_eq_true, decide_eq_true_eq]
          omega
      · rw [dec_nodot he e1 e2 e3]
        have := h6 e1 (fun hh => e3 hh.2.1)
        simp only [Bool.false_eq_true, iff_false]
        omega

/-- The number read is zero exactly when every digit is 0. -/
theorem zero_iff {f : Nat → Nat} {n s C : Nat} {N : Bool} {WL FL : Nat} (hs : s = sgn f n) (h : ScanOk f n s C N WL FL) (hC0 : C ≠ 0) (hC : C = n) : (decide (WL = 0) && decide (FL = 0)) = allZ f n := by
  have hsn : s ≤ n := by rw [hs]; exact (sgn_le f n).1
  have h2 := stop_two f n s hsn
  obtain ⟨a, b, c, d⟩ := stop_spec dig f n s hsn
  obtain ⟨a2, b2, c2, d2⟩ := stop_spec zer f n s hsn
  have hze : stop zer f n s ≤ stop dig f n s := by
    have := (stop_spec dig f n (stop zer f n s) b2).1
    rw [h2] at this
    exact this
  obtain ⟨h3, h4, h5, h6, _⟩ := h
  rw [h2] at h3 h4 h5 h6
  have hs0 : ∀ j, j < s → dig (f j) = false := by
    intro j hj
    have hs1 : 0 < n ∧ f 0 = 45 := by
      unfold sgn at hs
      by_cases hh : 0 < n ∧ f 0 = 45
      · exact hh
      · rw [if_neg hh] at hs; omega
    have : s = 1 := by rw [hs]; unfold sgn; rw [if_pos hs1]
    obtain rfl : j = 0 := by omega
    rw [hs1.2]; rfl
  generalize he : stop dig f n s = e at *
  generalize hz : stop zer f n s = z at *
  have e1 : e ≠ s := fun hh => hC0 (h3 hh)
  have hWL := h4 e1
  by_cases e4 : e + 1 < n ∧ f e = 46 ∧ dig (f (e + 1)) = true
  · obtain ⟨h7, h8⟩ := h5 e1 e4.1 e4.2.1 e4.2.2
    have hde := dig_dot f e e4.2.1
    have hspec := stop_spec dig f n (e + 1) (by omega)
    rw [← h7, hC] at hspec
    obtain ⟨_, _, c3, _⟩ := hspec
    rw [hC] at h8
    rw [Bool.eq_iff_iff]
    unfold allZ
    simp only [Bool.and_eq_true, decide_eq_true_eq]
    constructor
    · rintro ⟨w0, f0⟩ j hj hd
      by_cases j1 : j < s
      · rw [hs0 j j1] at hd; cases hd
      · by_cases j2 : j < e
        · have := c2 j (by omega) (by omega)
          simpa [zer] using this
        · by_cases j3 : j = e
          · subst j3; rw [hde] at hd; cases hd
          · exact h8.1 f0 j (by omega) hj
    · intro hall
      constructor
      · rcases Nat.lt_or_ge z e with hlt | hge
        · rcases d2 with d2 | d2
          · omega
          · have := hall z (by omega) (c z (by omega) hlt)
            simp [zer, this] at d2
        · omega
      · exact h8.2 (fun j x y => hall j y (c3 j x y))
  · obtain ⟨h7, h8⟩ := h6 e1 e4
    rw [Bool.eq_iff_iff]
    unfold allZ
    simp only [Bool.and_eq_true, decide_eq_true_eq]
    constructor
    · rintro ⟨w0, f0⟩ j hj hd
      by_cases j1 : j < s
      · rw [hs0 j j1] at hd; cases hd
      · have := c2 j (by omega) (by omega)
        simpa [zer] using this
    · intro hall
      refine ⟨?_, h8⟩
      rcases Nat.lt_or_ge z e with hlt | hge
      · rcases d2 with d2 | d2
        · omega
        · have := hall z (by omega) (c z (by omega) hlt)
          simp [zer, this] at d2
      · omega
end Go.Proofs.Qxb6616563a
