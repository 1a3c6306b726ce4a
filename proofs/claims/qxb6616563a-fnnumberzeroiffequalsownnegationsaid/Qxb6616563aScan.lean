/-
  The walk of scanNumber.
-/
import Derived.Test.Qxb6616563aDec
namespace Go.Proofs.Qxb6616563a
open Go.RowKit

theorem results_tmp4 {fn : Func} {t u v x : Tmp} (h : fn.results = #[.tmp t, .tmp u, .tmp v, .tmp x]) (tmps : Array Value) (P : Program) (w : World) :
    (results fn tmps).run P w = .ok (.tuple #[tmps.getD t undef, tmps.getD u undef, tmps.getD v undef, tmps.getD x undef]) w := by
  simp [results, h]

def ScanPost (f : Nat → Nat) (n s : Nat) (w : World) (e : Ending) (w' : World) : Prop :=
  ∃ (C : Nat) (N : Bool) (WL FL : Nat) (aw af : Option Addr) (cw cf : Nat), e = .returned (.tuple #[.int .i64 (C : Int), .bool N, .slice aw WL cw, .slice af FL cf]) ∧ w = w' ∧ ScanOk f n s C N WL FL

theorem post_fail {f : Nat → Nat} {n s z k : Nat} (hz : stop zer f n s = z) (he : stop dig f n z = k) (hk : k = s) (N : Bool) : ScanOk f n s 0 N 0 0 := by
  have h2 : stop dig f n (stop zer f n s) = s := by rw [hz, he, hk]
  exact ⟨fun _ => rfl, fun h => absurd h2 h, fun h => absurd h2 h, fun h => absurd h2 h, fun h => absurd h2 h⟩
theorem post_plain {f : Nat → Nat} {n s z k : Nat} (hz : stop zer f n s = z) (he : stop dig f n z = k) (hk : k ≠ s) (hno : ¬ (k + 1 < n ∧ f k = 46 ∧ dig (f (k + 1)) = true)) (N : Bool) (WL FL : Nat) (hW : WL = k - z) (hL : FL = 0) (hN : N = (decide (s = 1) && (decide (0 < WL) || decide (0 < FL)))) : ScanOk f n s k N WL FL := by
  subst hL
  have h2 : stop dig f n (stop zer f n s) = k := by rw [hz, he]
  refine ⟨fun h => ?_, fun _ => ?_, fun _ a b c => ?_, fun _ _ => ?_, fun _ => hN⟩
  · rw [h2] at h; exact absurd h hk
  · rw [hW, h2, hz]
  · rw [h2] at a b c; exact absurd ⟨a, b, c⟩ hno
  · rw [h2]; exact ⟨rfl, rfl⟩
theorem post_point {f : Nat → Nat} {n s z k m F : Nat} (hz : stop zer f n s = z) (he : stop dig f n z = k) (hk : k ≠ s) (h1 : k + 1 < n) (h46 : f k = 46) (hd : dig (f (k + 1)) = true) (he2 : stop dig f n (k + 1) = m)
    (hF0 : k + 1 ≤ F) (hF : F = k + 1 ↔ ∀ j, k + 1 ≤ j → j < m → f j = 48) (N : Bool) (WL FL : Nat) (hW : WL = k - z) (hL : FL = F - (k + 1)) (hN : N = (decide (s = 1) && (decide (0 < WL) || decide (0 < FL)))) : ScanOk f n s m N WL FL := by
  subst hL
  have h2 : stop dig f n (stop zer f n s) = k := by rw [hz, he]
  refine ⟨fun h => ?_, fun _ => ?_, fun _ _ _ _ => ?_, fun _ a => ?_, fun _ => hN⟩
  · rw [h2] at h; exact absurd h hk
  · rw [hW, h2, hz]
  · rw [h2, he2]; exact ⟨rfl, ⟨fun h => hF.1 (by omega), fun h => by have := hF.2 h; omega⟩⟩
  · rw [h2] at a; exact absurd ⟨h1, h46, hd⟩ a

set_option maxHeartbeats 8000000 in
theorem scan_any0 (b off n cap : Nat) (f : Nat → Nat) (w : World) (h0 : 0 < n) (hn : n ≤ 1048577) (hcap : n ≤ cap) (hc : Bts w b off n f) (HS : Hid (sgn f n = 0)) :
    Calls Try.prog 45 #[.slice (some ⟨b, off, none⟩) n cap] w (ScanPost f n 0 w) := by
  have hc0 := hc 0 h0
  simp only [Nat.add_zero] at hc0
  have HC : Hid (Bts w b off n f) := hc
  clear hc
  have h45 : ((f 0 : Int) == 45) = false := by
    have hh := HS.out
    unfold sgn at hh
    by_cases hx : 0 < n ∧ f 0 = 45
    · rw [if_pos hx] at hh; cases hh
    · rw [beq_eq_false_iff_ne]; omega
  have hSn : 0 ≤ n := by omega
  go_enter Try.func45, Try.ntmps45
  go_wp2
  go_loop [6] (fun i => ∃ k : Nat, 0 ≤ k ∧ k ≤ n ∧ i = .int .i64 k ∧ ∀ j, 0 ≤ j → j < k → zer (f j) = true) (fun i => n - (intOf i).toNat)
  case atStart => exact ⟨0, Nat.le_refl _, hSn, rfl, fun j _ h => by omega⟩
  case round =>
    obtain ⟨z, hz0, hz, rfl, hallz⟩ := hrel
    have HZ : Hid (∀ j, 0 ≤ j → j < z → zer (f j) = true) := hallz
    clear hallz hc0 h45
    by_cases hgo : z < n ∧ f z = 48
    · obtain ⟨hlt, h48⟩ := hgo
      have hcz := HC.out z hlt
      have hb : ((f z : Int) == 48) = true := by simp; omega
      have H48 : Hid (f z = 48) := h48
      clear h48
      go_wp2
      go_round
      case rel => exact ⟨z + 1, by omega, by omega, by go_num, fun j hj0 hj => if h : j = z then by rw [h, H48.out]; rfl else HZ.out j hj0 (by omega)⟩
      case measure => simp [intOf]; omega
    · have hcz : z < n → w.cell? ⟨b, off + z, none⟩ = some (.int .u8 (f z : Int)) := fun h => HC.out z h
      have hb : z < n → ((f z : Int) == 48) = false := fun h => by rw [beq_eq_false_iff_ne]; intro hh; exact hgo ⟨h, by omega⟩
      have hez : Hid (stop zer f n 0 = z) := stop_eq hz0 HZ.out hz (by
        by_cases h : z < n
        · right; have := hb h; simp only [zer]; rw [beq_eq_false_iff_ne] at this ⊢; omega
        · left; omega)
      clear hgo
      by_cases hlz : z < n
      all_goals
        first | replace hcz := hcz hlz | clear hcz
        first | replace hb := hb hlz | clear hb
        go_wp2
        first | clear hcz hb | skip
        go_loop [6] (fun i => ∃ k : Nat, z ≤ k ∧ k ≤ n ∧ i = .int .i64 k ∧ ∀ j, z ≤ j → j < k → dig (f j) = true) (fun i => n - (intOf i).toNat)
        case atStart => exact ⟨z, Nat.le_refl _, hz, rfl, fun j _ h => by omega⟩
        case round =>
          obtain ⟨k, hk0, hk, rfl, hall⟩ := hrel
          have HA : Hid (∀ j, z ≤ j → j < k → dig (f j) = true) := hall
          clear hall
          by_cases hgo : k < n ∧ dig (f k) = true
          · obtain ⟨hlt, hd⟩ := hgo
            have hck := HC.out k hlt
            go_wp2_with (go_at_call 53; refine (digit53 _ _).mono ?_; rintro e w' ⟨rfl, rfl⟩)
            go_round
            case rel => exact ⟨k + 1, by omega, by omega, by go_num, fun j hj0 hj => if h : j = k then by rw [h]; exact hd else HA.out j hj0 (by omega)⟩
            case measure => simp [intOf]; omega
          · have hck : k < n → w.cell? ⟨b, off + k, none⟩ = some (.int .u8 (f k : Int)) := fun h => HC.out k h
            have hd : k < n → dig (f k) = false := fun h => by
              by_cases hh : dig (f k) = true
              · exact absurd ⟨h, hh⟩ hgo
              · simpa using hh
            have he : Hid (stop dig f n z = k) := stop_eq hk0 HA.out hk (by
              by_cases h : k < n
              · exact .inr (hd h)
              · left; omega)
            clear hgo
            by_cases hkS : k = 0
            · have hb : ((k : Int) == 0) = true := by simp; omega
              have HK : Hid (k = 0) := hkS
              clear hkS
              by_cases hlk : k < n
              all_goals
                first | replace hck := hck hlk | clear hck
                first | replace hd := hd hlk | clear hd
                go_wp2_with (go_at_call 53; refine (digit53 _ _).mono ?_; rintro e w' ⟨rfl, rfl⟩)
                refine bodyPost_ret (results_tmp4 rfl _ _ _) rfl ?_
                exact ⟨0, _, 0, 0, _, _, _, _, rfl, rfl, post_fail hez.out he.out HK.out _⟩
            · have hb : ((k : Int) == 0) = false := by simp; omega
              by_cases hA1 : k + 1 < n
              · try (exfalso; omega)
                all_goals
                  have hlk : k < n := by omega
                  replace hck := hck hlk
                  replace hd := hd hlk
                  have hck1 := HC.out (k + 1) hA1
                  by_cases h46 : f k = 46
                  · have hb46 : ((f k : Int) == 46) = true := by simp; omega
                    have H46 : Hid (f k = 46) := h46
                    clear h46
                    by_cases hd1 : dig (f (k + 1)) = true
                    · as_aux_lemma =>
                      go_wp2_with (go_at_call 53; refine (digit53 _ _).mono ?_; rintro e w' ⟨rfl, rfl⟩)
                      clear hck hck1 hb hb46 hd
                      go_loop [10, 6] (fun v i => ∃ m F : Nat, k + 1 ≤ m ∧ m ≤ n ∧ k + 1 ≤ F ∧ F ≤ m ∧ i = .int .i64 m ∧ v = .int .i64 F ∧ (∀ j, k + 1 ≤ j → j < m → dig (f j) = true) ∧ (F = k + 1 ↔ ∀ j, k + 1 ≤ j → j < m → f j = 48)) (fun _ i => n - (intOf i).toNat)
                      case atStart => exact ⟨k + 1, k + 1, Nat.le_refl _, by omega, Nat.le_refl _, Nat.le_refl _, by go_num, by go_num, fun j _ h => by omega, ⟨fun _ j _ h => by omega, fun _ => rfl⟩⟩
                      case round =>
                        obtain ⟨m, F, hm0, hm, hF0, hFm, rfl, rfl, hall2, hF⟩ := hrel
                        have HB : Hid (∀ j, k + 1 ≤ j → j < m → dig (f j) = true) := hall2
                        have HF : Hid (F = k + 1 ↔ ∀ j, k + 1 ≤ j → j < m → f j = 48) := hF
                        clear hall2 hF
                        by_cases hgo : m < n ∧ dig (f m) = true
                        · obtain ⟨hlt2, hd2⟩ := hgo
                          have hcm := HC.out m hlt2
                          by_cases h48 : f m = 48
                          · have hb48 : ((f m : Int) != 48) = false := by simp; omega
                            have H48 : Hid (f m = 48) := h48
                            clear h48
                            go_wp2_with (go_at_call 53; refine (digit53 _ _).mono ?_; rintro e w' ⟨rfl, rfl⟩)
                            go_round
                            case rel => exact ⟨m + 1, F, by omega, by omega, hF0, by omega, by go_num, rfl, fun j hj0 hj => if h : j = m then by rw [h]; exact hd2 else HB.out j hj0 (by omega), ⟨fun hh j hj0 hj => if h : j = m then by rw [h]; exact H48.out else HF.out.1 hh j hj0 (by omega), fun hh => HF.out.2 (fun j hj0 hj => hh j hj0 (by omega))⟩⟩
                            case measure => simp [intOf]; omega
                          · have hb48 : ((f m : Int) != 48) = true := by simp; omega
                            go_wp2_with (go_at_call 53; refine (digit53 _ _).mono ?_; rintro e w' ⟨rfl, rfl⟩)
                            go_round
                            case rel => exact ⟨m + 1, m + 1, by omega, by omega, by omega, Nat.le_refl _, by go_num, by go_num, fun j hj0 hj => if h : j = m then by rw [h]; exact hd2 else HB.out j hj0 (by omega), ⟨fun hh => by omega, fun hh => absurd (hh m hm0 (by omega)) h48⟩⟩
                            case measure => simp [intOf]; omega
                        · have hcm : m < n → w.cell? ⟨b, off + m, none⟩ = some (.int .u8 (f m : Int)) := fun h => HC.out m h
                          have hd2 : m < n → dig (f m) = false := fun h => by
                            by_cases hh : dig (f m) = true
                            · exact absurd ⟨h, hh⟩ hgo
                            · simpa using hh
                          have he2 : Hid (stop dig f n (k + 1) = m) := stop_eq hm0 HB.out hm (by
                            by_cases h : m < n
                            · exact .inr (hd2 h)
                            · left; omega)
                          clear hgo
                          by_cases hlm : m < n
                          all_goals
                            first | replace hcm := hcm hlm | clear hcm
                            first | replace hd2 := hd2 hlm | clear hd2
                            by_cases hwl : (0 : Int) < ((k - z : Nat) : Int)
                            all_goals
                              by_cases hfl : (0 : Int) < ((F - (k + 1) : Nat) : Int)
                              all_goals
                                go_wp2_with (go_at_call 53; refine (digit53 _ _).mono ?_; rintro e w' ⟨rfl, rfl⟩)
                                all_goals
                                  refine bodyPost_ret (results_tmp4 rfl _ _ _) rfl ?_
                                  refine ⟨m, _, _, _, _, _, _, _, rfl, rfl, post_point hez.out he.out hkS hA1 H46.out hd1 he2.out hF0 HF.out _ _ _ (by omega) (by omega) ?_⟩
                                  first | rfl | (rw [Bool.eq_iff_iff]; simp <;> omega)
                    · have HNO : Hid (¬ (k + 1 < n ∧ f k = 46 ∧ dig (f (k + 1)) = true)) := fun hh => hd1 hh.2.2
                      simp only [Bool.not_eq_true] at hd1
                      as_aux_lemma =>
                        by_cases hwl : (0 : Int) < ((k - z : Nat) : Int)
                        all_goals
                          go_wp2_with (go_at_call 53; refine (digit53 _ _).mono ?_; rintro e w' ⟨rfl, rfl⟩)
                          all_goals
                            refine bodyPost_ret (results_tmp4 rfl _ _ _) rfl ?_
                            refine ⟨k, _, _, _, _, _, _, _, rfl, rfl, post_plain hez.out he.out hkS HNO.out _ _ _ (by omega) (by omega) ?_⟩
                            first | rfl | (rw [Bool.eq_iff_iff]; simp <;> omega)
                  · have hb46 : ((f k : Int) == 46) = false := by simp; omega
                    have HNO : Hid (¬ (k + 1 < n ∧ f k = 46 ∧ dig (f (k + 1)) = true)) := fun hh => h46 hh.2.1
                    clear hck1
                    as_aux_lemma =>
                      by_cases hwl : (0 : Int) < ((k - z : Nat) : Int)
                      all_goals
                        go_wp2_with (go_at_call 53; refine (digit53 _ _).mono ?_; rintro e w' ⟨rfl, rfl⟩)
                        all_goals
                          refine bodyPost_ret (results_tmp4 rfl _ _ _) rfl ?_
                          refine ⟨k, _, _, _, _, _, _, _, rfl, rfl, post_plain hez.out he.out hkS HNO.out _ _ _ (by omega) (by omega) ?_⟩
                          first | rfl | (rw [Bool.eq_iff_iff]; simp <;> omega)
              · have HNO : Hid (¬ (k + 1 < n ∧ f k = 46 ∧ dig (f (k + 1)) = true)) := fun hh => hA1 hh.1
                by_cases hlk : k < n
                all_goals
                  first | replace hck := hck hlk | clear hck
                  first | replace hd := hd hlk | clear hd
                  as_aux_lemma =>
                    by_cases hwl : (0 : Int) < ((k - z : Nat) : Int)
                    all_goals
                      go_wp2_with (go_at_call 53; refine (digit53 _ _).mono ?_; rintro e w' ⟨rfl, rfl⟩)
                      all_goals
                        refine bodyPost_ret (results_tmp4 rfl _ _ _) rfl ?_
                        refine ⟨k, _, _, _, _, _, _, _, rfl, rfl, post_plain hez.out he.out hkS HNO.out _ _ _ (by omega) (by omega) ?_⟩
                        first | rfl | (rw [Bool.eq_iff_iff]; simp <;> omega)

set_option maxHeartbeats 8000000 in
theorem scan_any1 (b off n cap : Nat) (f : Nat → Nat) (w : World) (h0 : 0 < n) (hn : n ≤ 1048577) (hcap : n ≤ cap) (hc : Bts w b off n f) (HS : Hid (sgn f n = 1)) :
    Calls Try.prog 45 #[.slice (some ⟨b, off, none⟩) n cap] w (ScanPost f n 1 w) := by
  have hc0 := hc 0 h0
  simp only [Nat.add_zero] at hc0
  have HC : Hid (Bts w b off n f) := hc
  clear hc
  have h45 : ((f 0 : Int) == 45) = true := by
    have hh := HS.out
    unfold sgn at hh
    by_cases hx : 0 < n ∧ f 0 = 45
    · simp [hx.2]
    · rw [if_neg hx] at hh; cases hh
  have hSn : 1 ≤ n := by omega
  go_enter Try.func45, Try.ntmps45
  go_wp2
  go_loop [6] (fun i => ∃ k : Nat, 1 ≤ k ∧ k ≤ n ∧ i = .int .i64 k ∧ ∀ j, 1 ≤ j → j < k → zer (f j) = true) (fun i => n - (intOf i).toNat)
  case atStart => exact ⟨1, Nat.le_refl _, hSn, rfl, fun j _ h => by omega⟩
  case round =>
    obtain ⟨z, hz0, hz, rfl, hallz⟩ := hrel
    have HZ : Hid (∀ j, 1 ≤ j → j < z → zer (f j) = true) := hallz
    clear hallz hc0 h45
    by_cases hgo : z < n ∧ f z = 48
    · obtain ⟨hlt, h48⟩ := hgo
      have hcz := HC.out z hlt
      have hb : ((f z : Int) == 48) = true := by simp; omega
      have H48 : Hid (f z = 48) := h48
      clear h48
      go_wp2
      go_round
      case rel => exact ⟨z + 1, by omega, by omega, by go_num, fun j hj0 hj => if h : j = z then by rw [h, H48.out]; rfl else HZ.out j hj0 (by omega)⟩
      case measure => simp [intOf]; omega
    · have hcz : z < n → w.cell? ⟨b, off + z, none⟩ = some (.int .u8 (f z : Int)) := fun h => HC.out z h
      have hb : z < n → ((f z : Int) == 48) = false := fun h => by rw [beq_eq_false_iff_ne]; intro hh; exact hgo ⟨h, by omega⟩
      have hez : Hid (stop zer f n 1 = z) := stop_eq hz0 HZ.out hz (by
        by_cases h : z < n
        · right; have := hb h; simp only [zer]; rw [beq_eq_false_iff_ne] at this ⊢; omega
        · left; omega)
      clear hgo
      by_cases hlz : z < n
      all_goals
        first | replace hcz := hcz hlz | clear hcz
        first | replace hb := hb hlz | clear hb
        go_wp2
        first | clear hcz hb | skip
        go_loop [6] (fun i => ∃ k : Nat, z ≤ k ∧ k ≤ n ∧ i = .int .i64 k ∧ ∀ j, z ≤ j → j < k → dig (f j) = true) (fun i => n - (intOf i).toNat)
        case atStart => exact ⟨z, Nat.le_refl _, hz, rfl, fun j _ h => by omega⟩
        case round =>
          obtain ⟨k, hk0, hk, rfl, hall⟩ := hrel
          have HA : Hid (∀ j, z ≤ j → j < k → dig (f j) = true) := hall
          clear hall
          by_cases hgo : k < n ∧ dig (f k) = true
          · obtain ⟨hlt, hd⟩ := hgo
            have hck := HC.out k hlt
            go_wp2_with (go_at_call 53; refine (digit53 _ _).mono ?_; rintro e w' ⟨rfl, rfl⟩)
            go_round
            case rel => exact ⟨k + 1, by omega, by omega, by go_num, fun j hj0 hj => if h : j = k then by rw [h]; exact hd else HA.out j hj0 (by omega)⟩
            case measure => simp [intOf]; omega
          · have hck : k < n → w.cell? ⟨b, off + k, none⟩ = some (.int .u8 (f k : Int)) := fun h => HC.out k h
            have hd : k < n → dig (f k) = false := fun h => by
              by_cases hh : dig (f k) = true
              · exact absurd ⟨h, hh⟩ hgo
              · simpa using hh
            have he : Hid (stop dig f n z = k) := stop_eq hk0 HA.out hk (by
              by_cases h : k < n
              · exact .inr (hd h)
              · left; omega)
            clear hgo
            by_cases hkS : k = 1
            · have hb : ((k : Int) == 1) = true := by simp; omega
              have HK : Hid (k = 1) := hkS
              clear hkS
              by_cases hlk : k < n
              all_goals
                first | replace hck := hck hlk | clear hck
                first | replace hd := hd hlk | clear hd
                go_wp2_with (go_at_call 53; refine (digit53 _ _).mono ?_; rintro e w' ⟨rfl, rfl⟩)
                refine bodyPost_ret (results_tmp4 rfl _ _ _) rfl ?_
                exact ⟨0, _, 0, 0, _, _, _, _, rfl, rfl, post_fail hez.out he.out HK.out _⟩
            · have hb : ((k : Int) == 1) = false := by simp; omega
              by_cases hA1 : k + 1 < n
              · try (exfalso; omega)
                all_goals
                  have hlk : k < n := by omega
                  replace hck := hck hlk
                  replace hd := hd hlk
                  have hck1 := HC.out (k + 1) hA1
                  by_cases h46 : f k = 46
                  · have hb46 : ((f k : Int) == 46) = true := by simp; omega
                    have H46 : Hid (f k = 46) := h46
                    clear h46
                    by_cases hd1 : dig (f (k + 1)) = true
                    · as_aux_lemma =>
                      go_wp2_with (go_at_call 53; refine (digit53 _ _).mono ?_; rintro e w' ⟨rfl, rfl⟩)
                      clear hck hck1 hb hb46 hd
                      go_loop [10, 6] (fun v i => ∃ m F : Nat, k + 1 ≤ m ∧ m ≤ n ∧ k + 1 ≤ F ∧ F ≤ m ∧ i = .int .i64 m ∧ v = .int .i64 F ∧ (∀ j, k + 1 ≤ j → j < m → dig (f j) = true) ∧ (F = k + 1 ↔ ∀ j, k + 1 ≤ j → j < m → f j = 48)) (fun _ i => n - (intOf i).toNat)
                      case atStart => exact ⟨k + 1, k + 1, Nat.le_refl _, by omega, Nat.le_refl _, Nat.le_refl _, by go_num, by go_num, fun j _ h => by omega, ⟨fun _ j _ h => by omega, fun _ => rfl⟩⟩
                      case round =>
                        obtain ⟨m, F, hm0, hm, hF0, hFm, rfl, rfl, hall2, hF⟩ := hrel
                        have HB : Hid (∀ j, k + 1 ≤ j → j < m → dig (f j) = true) := hall2
                        have HF : Hid (F = k + 1 ↔ ∀ j, k + 1 ≤ j → j < m → f j = 48) := hF
                        clear hall2 hF
                        by_cases hgo : m < n ∧ dig (f m) = true
                        · obtain ⟨hlt2, hd2⟩ := hgo
                          have hcm := HC.out m hlt2
                          by_cases h48 : f m = 48
                          · have hb48 : ((f m : Int) != 48) = false := by simp; omega
                            have H48 : Hid (f m = 48) := h48
                            clear h48
                            go_wp2_with (go_at_call 53; refine (digit53 _ _).mono ?_; rintro e w' ⟨rfl, rfl⟩)
                            go_round
                            case rel => exact ⟨m + 1, F, by omega, by omega, hF0, by omega, by go_num, rfl, fun j hj0 hj => if h : j = m then by rw [h]; exact hd2 else HB.out j hj0 (by omega), ⟨fun hh j hj0 hj => if h : j = m then by rw [h]; exact H48.out else HF.out.1 hh j hj0 (by omega), fun hh => HF.out.2 (fun j hj0 hj => hh j hj0 (by omega))⟩⟩
                            case measure => simp [intOf]; omega
                          · have hb48 : ((f m : Int) != 48) = true := by simp; omega
                            go_wp2_with (go_at_call 53; refine (digit53 _ _).mono ?_; rintro e w' ⟨rfl, rfl⟩)
                            go_round
                            case rel => exact ⟨m + 1, m + 1, by omega, by omega, by omega, Nat.le_refl _, by go_num, by go_num, fun j hj0 hj => if h : j = m then by rw [h]; exact hd2 else HB.out j hj0 (by omega), ⟨fun hh => by omega, fun hh => absurd (hh m hm0 (by omega)) h48⟩⟩
                            case measure => simp [intOf]; omega
                        · have hcm : m < n → w.cell? ⟨b, off + m, none⟩ = some (.int .u8 (f m : Int)) := fun h => HC.out m h
                          have hd2 : m < n → dig (f m) = false := fun h => by
                            by_cases hh : dig (f m) = true
                            · exact absurd ⟨h, hh⟩ hgo
                            · simpa using hh
                          have he2 : Hid (stop dig f n (k + 1) = m) := stop_eq hm0 HB.out hm (by
                            by_cases h : m < n
                            · exact .inr (hd2 h)
                            · left; omega)
                          clear hgo
                          by_cases hlm : m < n
                          all_goals
                            first | replace hcm := hcm hlm | clear hcm
                            first | replace hd2 := hd2 hlm | clear hd2
                            by_cases hwl : (0 : Int) < ((k - z : Nat) : Int)
                            all_goals
                              by_cases hfl : (0 : Int) < ((F - (k + 1) : Nat) : Int)
                              all_goals
                                go_wp2_with (go_at_call 53; refine (digit53 _ _).mono ?_; rintro e w' ⟨rfl, rfl⟩)
                                all_goals
                                  refine bodyPost_ret (results_tmp4 rfl _ _ _) rfl ?_
                                  refine ⟨m, _, _, _, _, _, _, _, rfl, rfl, post_point hez.out he.out hkS hA1 H46.out hd1 he2.out hF0 HF.out _ _ _ (by omega) (by omega) ?_⟩
                                  first | rfl | (rw [Bool.eq_iff_iff]; simp <;> omega)
                    · have HNO : Hid (¬ (k + 1 < n ∧ f k = 46 ∧ dig (f (k + 1)) = true)) := fun hh => hd1 hh.2.2
                      simp only [Bool.not_eq_true] at hd1
                      as_aux_lemma =>
                        by_cases hwl : (0 : Int) < ((k - z : Nat) : Int)
                        all_goals
                          go_wp2_with (go_at_call 53; refine (digit53 _ _).mono ?_; rintro e w' ⟨rfl, rfl⟩)
                          all_goals
                            refine bodyPost_ret (results_tmp4 rfl _ _ _) rfl ?_
                            refine ⟨k, _, _, _, _, _, _, _, rfl, rfl, post_plain hez.out he.out hkS HNO.out _ _ _ (by omega) (by omega) ?_⟩
                            first | rfl | (rw [Bool.eq_iff_iff]; simp <;> omega)
                  · have hb46 : ((f k : Int) == 46) = false := by simp; omega
                    have HNO : Hid (¬ (k + 1 < n ∧ f k = 46 ∧ dig (f (k + 1)) = true)) := fun hh => h46 hh.2.1
                    clear hck1
                    as_aux_lemma =>
                      by_cases hwl : (0 : Int) < ((k - z : Nat) : Int)
                      all_goals
                        go_wp2_with (go_at_call 53; refine (digit53 _ _).mono ?_; rintro e w' ⟨rfl, rfl⟩)
                        all_goals
                          refine bodyPost_ret (results_tmp4 rfl _ _ _) rfl ?_
                          refine ⟨k, _, _, _, _, _, _, _, rfl, rfl, post_plain hez.out he.out hkS HNO.out _ _ _ (by omega) (by omega) ?_⟩
                          first | rfl | (rw [Bool.eq_iff_iff]; simp <;> omega)
              · have HNO : Hid (¬ (k + 1 < n ∧ f k = 46 ∧ dig (f (k + 1)) = true)) := fun hh => hA1 hh.1
                by_cases hlk : k < n
                all_goals
                  first | replace hck := hck hlk | clear hck
                  first | replace hd := hd hlk | clear hd
                  as_aux_lemma =>
                    by_cases hwl : (0 : Int) < ((k - z : Nat) : Int)
                    all_goals
                      go_wp2_with (go_at_call 53; refine (digit53 _ _).mono ?_; rintro e w' ⟨rfl, rfl⟩)
                      all_goals
                        refine bodyPost_ret (results_tmp4 rfl _ _ _) rfl ?_
                        refine ⟨k, _, _, _, _, _, _, _, rfl, rfl, post_plain hez.out he.out hkS HNO.out _ _ _ (by omega) (by omega) ?_⟩
                        first | rfl | (rw [Bool.eq_iff_iff]; simp <;> omega)

theorem scan_any (b off n cap : Nat) (f : Nat → Nat) (w : World) (h0 : 0 < n) (hn : n ≤ 1048577) (hcap : n ≤ cap) (hc : Bts w b off n f) :
    Calls Try.prog 45 #[.slice (some ⟨b, off, none⟩) n cap] w (ScanPost f n (sgn f n) w) := by
  have hs1 := (sgn_le f n).2
  rcases (show sgn f n = 0 ∨ sgn f n = 1 by omega) with hs | hs
  · rw [hs]; exact scan_any0 b off n cap f w h0 hn hcap hc hs
  · rw [hs]; exact scan_any1 b off n cap f w h0 hn hcap hc hs
end Go.Proofs.Qxb6616563a
