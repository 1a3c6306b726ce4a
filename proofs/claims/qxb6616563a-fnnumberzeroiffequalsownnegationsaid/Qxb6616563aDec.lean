/-
  The walk of b1IsDecimal.
-/
import Derived.Test.Qxb6616563aDigs
namespace Go.Proofs.Qxb6616563a
open Go.RowKit

theorem beq_no {a b : Nat} (h : a ≠ b) : ((a : Int) == (b : Int)) = false := by
  rw [beq_eq_false_iff_ne]; omega

set_option maxHeartbeats 2000000 in
theorem dec_any0 (b off n cap : Nat) (f : Nat → Nat) (w : World) (h0 : 0 < n) (hn : n ≤ 1048576) (hc : Bts w b off n f) (HS : Hid (sgn f n = 0)) :
    Calls Try.prog 28 #[.slice (some ⟨b, off, none⟩) n cap] w fun e w' => e = .returned (.bool (decB f n 0)) ∧ w = w' := by
  have hc0 := hc 0 h0
  simp only [Nat.add_zero] at hc0
  have HC : Hid (Bts w b off n f) := hc
  clear hc
  have h45 : ((f 0 : Int) == 45) = false := by
    have hh := HS.out
    unfold sgn at hh
    by_cases hx : 0 < n ∧ f 0 = 45
    · rw [if_pos hx] at hh; cases hh
    · rw [beq_eq_false_iff_ne]; omega
  have hSn : 0 ≤ n := by omega
  go_enter Try.func28, Try.ntmps28
  go_wp2
  go_loop [3] (fun i => ∃ k : Nat, 0 ≤ k ∧ k ≤ n ∧ i = .int .i64 k ∧ ∀ j, 0 ≤ j → j < k → dig (f j) = true) (fun i => n - (intOf i).toNat)
  case atStart => exact ⟨0, Nat.le_refl _, hSn, rfl, fun j _ h => by omega⟩
  case round =>
    obtain ⟨k, hk0, hk, rfl, hall⟩ := hrel
    have HA : Hid (∀ j, 0 ≤ j → j < k → dig (f j) = true) := hall
    clear hall hc0 h45
    by_cases hlt : k < n
    · have hck := HC.out k hlt
      by_cases hd : dig (f k) = true
      · go_wp2_with (go_at_call 40; refine (digit40 _ _).mono ?_; rintro e w' ⟨rfl, rfl⟩)
        go_round
        case rel => exact ⟨k + 1, by omega, by omega, by go_num, fun j hj0 hj => if h : j = k then by rw [h]; exact hd else HA.out j hj0 (by omega)⟩
        case measure => simp [intOf]; omega
      · simp only [Bool.not_eq_true] at hd
        have he : Hid (stop dig f n 0 = k) := stop_eq hk0 HA.out hk (.inr hd)
        by_cases hkS : k = 0
        · have hb : ((k : Int) == 0) = true := by simp; omega
          have HK : Hid (k = 0) := hkS
          clear hkS
          go_wp2_with (go_at_call 40; refine (digit40 _ _).mono ?_; rintro e w' ⟨rfl, rfl⟩)
          go_ret
          exact ⟨ret_bool (dec_none (he.out.trans HK.out)).symm, rfl⟩
        · have hb : ((k : Int) == 0) = false := by simp; omega
          have hb2 : ((k : Int) == (n : Int)) = false := beq_no (by omega)
          by_cases h46 : f k = 46
          · have hb3 : ((f k : Int) != 46) = false := by simp; omega
            have H46 : Hid (f k = 46) := h46
            clear h46
            go_wp2_with (go_at_call 40; refine (digit40 _ _).mono ?_; rintro e w' ⟨rfl, rfl⟩)
            clear hck hb hb2 hb3
            go_loop [3] (fun i => ∃ m : Nat, k + 1 ≤ m ∧ m ≤ n ∧ i = .int .i64 m ∧ ∀ j, k + 1 ≤ j → j < m → dig (f j) = true) (fun i => n - (intOf i).toNat)
            case atStart => exact ⟨k + 1, Nat.le_refl _, hlt, by go_num, fun j _ h => by omega⟩
            case round =>
              obtain ⟨m, hm0, hm, rfl, hall2⟩ := hrel
              have HB : Hid (∀ j, k + 1 ≤ j → j < m → dig (f j) = true) := hall2
              clear hall2
              by_cases hlt2 : m < n
              · have hcm := HC.out m hlt2
                by_cases hd2 : dig (f m) = true
                · go_wp2_with (go_at_call 40; refine (digit40 _ _).mono ?_; rintro e w' ⟨rfl, rfl⟩)
                  go_round
                  case rel => exact ⟨m + 1, by omega, by omega, by go_num, fun j hj0 hj => if h : j = m then by rw [h]; exact hd2 else HB.out j hj0 (by omega)⟩
                  case measure => simp [intOf]; omega
                · simp only [Bool.not_eq_true] at hd2
                  have he2 : Hid (stop dig f n (k + 1) = m) := stop_eq hm0 HB.out hm (.inr hd2)
                  have hmn : ((m : Int) == (n : Int)) = false := beq_no (by omega)
                  go_wp2_with (go_at_call 40; refine (digit40 _ _).mono ?_; rintro e w' ⟨rfl, rfl⟩)
                  all_goals
                    go_ret
                    refine ⟨ret_bool ?_, rfl⟩
                    rw [dec_frac he.out hkS (by omega) H46.out he2.out]
                    have hx : decide (m = n) = false := by simp; omega
                    rw [hx]; simp
              · have he2 : Hid (stop dig f n (k + 1) = m) := stop_eq hm0 HB.out hm (.inl (by omega))
                have hmn : ((m : Int) == (n : Int)) = true := by simp; omega
                have hmn' : m = n := by omega
                have HM : Hid (m = n) := hmn'
                clear hmn'
                by_cases hl : k + 1 < m
                · have hl' : (k : Int) + 1 < (m : Int) := by omega
                  go_wp2
                  all_goals
                    go_ret
                    refine ⟨ret_bool ?_, rfl⟩
                    rw [dec_frac he.out hkS (by omega) H46.out he2.out]
                    have hx : decide (m = n) = true := by simpa using HM.out
                    have hy : decide (k + 1 < m) = true := by simpa using hl
                    rw [hx, hy]; rfl
                · have hl' : ¬ (k : Int) + 1 < (m : Int) := by omega
                  go_wp2
                  all_goals
                    go_ret
                    refine ⟨ret_bool ?_, rfl⟩
                    rw [dec_frac he.out hkS (by omega) H46.out he2.out]
                    have hy : decide (k + 1 < m) = false := by simpa using hl
                    rw [hy]; rfl
          · have hb3 : ((f k : Int) != 46) = true := by simp; omega
            go_wp2_with (go_at_call 40; refine (digit40 _ _).mono ?_; rintro e w' ⟨rfl, rfl⟩)
            go_ret
            exact ⟨ret_bool (dec_nodot he.out hkS (by omega) h46).symm, rfl⟩
    · have he : Hid (stop dig f n 0 = k) := stop_eq hk0 HA.out hk (.inl (by omega))
      have hkn : ((k : Int) == (n : Int)) = true := by simp; omega
      have HN : Hid (k = n) := by show k = n; omega
      by_cases hkS : k = 0
      · have hb : ((k : Int) == 0) = true := by simp; omega
        have HK : Hid (k = 0) := hkS
        clear hkS
        go_wp2
        go_ret
        exact ⟨ret_bool (dec_none (he.out.trans HK.out)).symm, rfl⟩
      · have hb : ((k : Int) == 0) = false := by simp; omega
        go_wp2
        go_ret
        exact ⟨ret_bool (dec_whole he.out hkS HN.out).symm, rfl⟩

set_option maxHeartbeats 2000000 in
theorem dec_any1 (b off n cap : Nat) (f : Nat → Nat) (w : World) (h0 : 0 < n) (hn : n ≤ 1048576) (hc : Bts w b off n f) (HS : Hid (sgn f n = 1)) :
    Calls Try.prog 28 #[.slice (some ⟨b, off, none⟩) n cap] w fun e w' => e = .returned (.bool (decB f n 1)) ∧ w = w' := by
  have hc0 := hc 0 h0
  simp only [Nat.add_zero] at hc0
  have HC : Hid (Bts w b off n f) := hc
  clear hc
  have h45 : ((f 0 : Int) == 45) = true := by
    have hh := HS.out
    unfold sgn at hh
    by_cases hx : 0 < n ∧ f 0 = 45
    · simp [hx.2]
    · rw [if_neg hx] at hh; cases hh
  have hSn : 1 ≤ n := by omega
  go_enter Try.func28, Try.ntmps28
  go_wp2
  go_loop [3] (fun i => ∃ k : Nat, 1 ≤ k ∧ k ≤ n ∧ i = .int .i64 k ∧ ∀ j, 1 ≤ j → j < k → dig (f j) = true) (fun i => n - (intOf i).toNat)
  case atStart => exact ⟨1, Nat.le_refl _, hSn, rfl, fun j _ h => by omega⟩
  case round =>
    obtain ⟨k, hk0, hk, rfl, hall⟩ := hrel
    have HA : Hid (∀ j, 1 ≤ j → j < k → dig (f j) = true) := hall
    clear hall hc0 h45
    by_cases hlt : k < n
    · have hck := HC.out k hlt
      by_cases hd : dig (f k) = true
      · go_wp2_with (go_at_call 40; refine (digit40 _ _).mono ?_; rintro e w' ⟨rfl, rfl⟩)
        go_round
        case rel => exact ⟨k + 1, by omega, by omega, by go_num, fun j hj0 hj => if h : j = k then by rw [h]; exact hd else HA.out j hj0 (by omega)⟩
        case measure => simp [intOf]; omega
      · simp only [Bool.not_eq_true] at hd
        have he : Hid (stop dig f n 1 = k) := stop_eq hk0 HA.out hk (.inr hd)
        by_cases hkS : k = 1
        · have hb : ((k : Int) == 1) = true := by simp; omega
          have HK : Hid (k = 1) := hkS
          clear hkS
          go_wp2_with (go_at_call 40; refine (digit40 _ _).mono ?_; rintro e w' ⟨rfl, rfl⟩)
          go_ret
          exact ⟨ret_bool (dec_none (he.out.trans HK.out)).symm, rfl⟩
        · have hb : ((k : Int) == 1) = false := by simp; omega
          have hb2 : ((k : Int) == (n : Int)) = false := beq_no (by omega)
          by_cases h46 : f k = 46
          · have hb3 : ((f k : Int) != 46) = false := by simp; omega
            have H46 : Hid (f k = 46) := h46
            clear h46
            go_wp2_with (go_at_call 40; refine (digit40 _ _).mono ?_; rintro e w' ⟨rfl, rfl⟩)
            clear hck hb hb2 hb3
            go_loop [3] (fun i => ∃ m : Nat, k + 1 ≤ m ∧ m ≤ n ∧ i = .int .i64 m ∧ ∀ j, k + 1 ≤ j → j < m → dig (f j) = true) (fun i => n - (intOf i).toNat)
            case atStart => exact ⟨k + 1, Nat.le_refl _, hlt, by go_num, fun j _ h => by omega⟩
            case round =>
              obtain ⟨m, hm0, hm, rfl, hall2⟩ := hrel
              have HB : Hid (∀ j, k + 1 ≤ j → j < m → dig (f j) = true) := hall2
              clear hall2
              by_cases hlt2 : m < n
              · have hcm := HC.out m hlt2
                by_cases hd2 : dig (f m) = true
                · go_wp2_with (go_at_call 40; refine (digit40 _ _).mono ?_; rintro e w' ⟨rfl, rfl⟩)
                  go_round
                  case rel => exact ⟨m + 1, by omega, by omega, by go_num, fun j hj0 hj => if h : j = m then by rw [h]; exact hd2 else HB.out j hj0 (by omega)⟩
                  case measure => simp [intOf]; omega
                · simp only [Bool.not_eq_true] at hd2
                  have he2 : Hid (stop dig f n (k + 1) = m) := stop_eq hm0 HB.out hm (.inr hd2)
                  have hmn : ((m : Int) == (n : Int)) = false := beq_no (by omega)
                  go_wp2_with (go_at_call 40; refine (digit40 _ _).mono ?_; rintro e w' ⟨rfl, rfl⟩)
                  all_goals
                    go_ret
                    refine ⟨ret_bool ?_, rfl⟩
                    rw [dec_frac he.out hkS (by omega) H46.out he2.out]
                    have hx : decide (m = n) = false := by simp; omega
                    rw [hx]; simp
              · have he2 : Hid (stop dig f n (k + 1) = m) := stop_eq hm0 HB.out hm (.inl (by omega))
                have hmn : ((m : Int) == (n : Int)) = true := by simp; omega
                have hmn' : m = n := by omega
                have HM : Hid (m = n) := hmn'
                clear hmn'
                by_cases hl : k + 1 < m
                · have hl' : (k : Int) + 1 < (m : Int) := by omega
                  go_wp2
                  all_goals
                    go_ret
                    refine ⟨ret_bool ?_, rfl⟩
                    rw [dec_frac he.out hkS (by omega) H46.out he2.out]
                    have hx : decide (m = n) = true := by simpa using HM.out
                    have hy : decide (k + 1 < m) = true := by simpa using hl
                    rw [hx, hy]; rfl
                · have hl' : ¬ (k : Int) + 1 < (m : Int) := by omega
                  go_wp2
                  all_goals
                    go_ret
                    refine ⟨ret_bool ?_, rfl⟩
                    rw [dec_frac he.out hkS (by omega) H46.out he2.out]
                    have hy : decide (k + 1 < m) = false := by simpa using hl
                    rw [hy]; rfl
          · have hb3 : ((f k : Int) != 46) = true := by simp; omega
            go_wp2_with (go_at_call 40; refine (digit40 _ _).mono ?_; rintro e w' ⟨rfl, rfl⟩)
            go_ret
            exact ⟨ret_bool (dec_nodot he.out hkS (by omega) h46).symm, rfl⟩
    · have he : Hid (stop dig f n 1 = k) := stop_eq hk0 HA.out hk (.inl (by omega))
      have hkn : ((k : Int) == (n : Int)) = true := by simp; omega
      have HN : Hid (k = n) := by show k = n; omega
      by_cases hkS : k = 1
      · have hb : ((k : Int) == 1) = true := by simp; omega
        have HK : Hid (k = 1) := hkS
        clear hkS
        go_wp2
        go_ret
        exact ⟨ret_bool (dec_none (he.out.trans HK.out)).symm, rfl⟩
      · have hb : ((k : Int) == 1) = false := by simp; omega
        go_wp2
        go_ret
        exact ⟨ret_bool (dec_whole he.out hkS HN.out).symm, rfl⟩

theorem dec_any (b off n cap : Nat) (f : Nat → Nat) (w : World) (h0 : 0 < n) (hn : n ≤ 1048576) (hc : Bts w b off n f) :
    Calls Try.prog 28 #[.slice (some ⟨b, off, none⟩) n cap] w fun e w' => e = .returned (.bool (decB f n (sgn f n))) ∧ w = w' := by
  have hs1 := (sgn_le f n).2
  rcases (show sgn f n = 0 ∨ sgn f n = 1 by omega) with hs | hs
  · rw [hs]; exact dec_any0 b off n cap f w h0 hn hc hs
  · rw [hs]; exact dec_any1 b off n cap f w h0 hn hc hs

theorem dec_empty (a : Option Addr) (cap : Nat) (w : World) :
    Calls Try.prog 28 #[.slice a 0 cap] w fun e w' => e = .returned (.bool false) ∧ w = w' := by
  go_enter Try.func28, Try.ntmps28
  go_wp2
  refine wp_loop_rounds 1 ?_
  rw [rounds_succ]
  go_wp2
  go_ret
  exact ⟨rfl, rfl⟩
end Go.Proofs.Qxb6616563a
