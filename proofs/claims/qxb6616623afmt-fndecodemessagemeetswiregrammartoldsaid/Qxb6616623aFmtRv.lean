/-
  The walk of zzB1ReadVar.
-/
import Derived.Test.Qxb6616623aFmtAny
import Derived.Laws.BitsAllLaws
namespace Go.Proofs.Qxb6616623aFmt
open Go.RowKit Go.Lib Go.Shelf
set_option linter.unusedVariables false

def gVar (L : List UInt8) (p : Nat) : Nat × Nat × Bool :=
  match rVar L p with
  | none => (0, p, false)
  | some (v, q) => (v, q, true)

def RvPost (L : List UInt8) (p : Nat) (w : World) (e : Ending) (w' : World) : Prop :=
  e = .returned (.tuple #[.int .u64 ((gVar L p).1 : Int), .int .i64 ((gVar L p).2.1 : Int), .bool (gVar L p).2.2]) ∧ w = w'

theorem rv_bad {L : List UInt8} {p : Nat} (w : World) (h : (uvarintFrom 0 0 (L.drop p)).2 ≤ 0) : RvPost L p w (.returned (.tuple #[.int .u64 0, .int .i64 (p : Int), .bool false])) w := by
  have hr : rVar L p = none := by
    unfold rVar
    rw [if_neg (by show ¬ 0 < (uvarintFrom 0 0 (L.drop p)).2; omega)]
  unfold RvPost gVar
  rw [hr]
  exact ⟨rfl, rfl⟩

theorem rv_good {L : List UInt8} {p v k : Nat} (w : World) (h : uvarintFrom 0 0 (L.drop p) = (v, ((k + 1 : Nat) : Int))) : RvPost L p w (.returned (.tuple #[.int .u64 (v : Int), .int .i64 ((p + (k + 1) : Nat) : Int), .bool true])) w := by
  have h' : uvarintDec (L.drop p) = (v, ((k + 1 : Nat) : Int)) := h
  have hr : rVar L p = some (v, p + (k + 1)) := by
    unfold rVar
    rw [h', if_pos (by show (0 : Int) < ((k + 1 : Nat) : Int); omega)]
    simp
  unfold RvPost gVar
  rw [hr]
  exact ⟨rfl, rfl⟩

set_option maxRecDepth 100000 in
theorem bit127 : ∀ b : Fin 256, bits .and .u8 (b.val : Int) 127 = ((b.val % 128 : Nat) : Int) := by decide

theorem or_shift (a b m : Nat) (h : a < 2 ^ m) : a ||| (b * 2 ^ m) = a + b * 2 ^ m := by
  rw [Nat.or_comm, ← Nat.shiftLeft_eq, ← Nat.shiftLeft_add_eq_or_of_lt h, Nat.add_comm]

theorem or_val (a d k sh : Nat) (hsh : sh = d * 2 ^ (7 * k)) (hlt : sh < 18446744073709551616) (ha : a < 2 ^ (7 * k)) (ha6 : a < 18446744073709551616) :
    bits .or .u64 (a : Int) (IntKind.u64.wrap ((d : Int) * 2 ^ (7 * k))) = ((a + sh : Nat) : Int) := by
  have e2 : (d : Int) * 2 ^ (7 * k) = (sh : Int) := by rw [hsh]; simp
  have e3 : IntKind.u64.wrap (sh : Int) = (sh : Int) := by
    simp [IntKind.wrap, IntKind.signed, IntKind.bits]
    omega
  have e4 : a ||| sh = a + sh := by rw [hsh]; exact or_shift a d _ ha
  rw [e2, e3, u64_or_nat a sh ha6 hlt, e4]

theorem pow_small : ∀ k : Fin 10, (k.val < 9 → 128 * 2 ^ (7 * k.val) < 18446744073709551616) ∧ 2 * 2 ^ (7 * k.val) ≤ 18446744073709551616 := by decide

/-- What one byte adds. -/
theorem rv_step (c : UInt8) (r : List UInt8) (k acc : Nat) (hk : k < 10) (h9 : ¬ (k = 9 ∧ 1 < c.toNat)) (hacc : acc < 2 ^ (7 * k)) :
    c.toNat % 128 * 2 ^ (7 * k) < 18446744073709551616 ∧ acc < 18446744073709551616 ∧ acc + c.toNat % 128 * 2 ^ (7 * k) < 2 ^ (7 * (k + 1)) ∧
    (c.toNat < 128 → uvarintFrom k acc (c :: r) = (acc + c.toNat % 128 * 2 ^ (7 * k), ((k + 1 : Nat) : Int))) ∧ (¬ c.toNat < 128 → uvarintFrom k acc (c :: r) = uvarintFrom (k + 1) (acc + c.toNat % 128 * 2 ^ (7 * k)) r) := by
  have hc := c.toNat_lt
  have hd : c.toNat % 128 < 128 := Nat.mod_lt _ (by omega)
  have hpow : 2 ^ (7 * (k + 1)) = 128 * 2 ^ (7 * k) := by rw [Nat.mul_add, Nat.pow_add]; simp [Nat.mul_comm]
  have hmul : c.toNat % 128 * 2 ^ (7 * k) + 2 ^ (7 * k) ≤ 128 * 2 ^ (7 * k) := by
    have := Nat.mul_le_mul_right (2 ^ (7 * k)) (show c.toNat % 128 + 1 ≤ 128 by omega)
    rw [Nat.add_mul, Nat.one_mul] at this
    exact this
  obtain ⟨s1, s2⟩ := pow_small ⟨k, hk⟩
  simp only at s1 s2
  refine ⟨?_, ?_, by omega, fun hlt => ?_, fun hge => ?_⟩
  · by_cases h : k < 9
    · have := s1 h; omega
    · have hk9 : k = 9 := by omega
      have hc1 : c.toNat ≤ 1 := by
        apply Nat.le_of_not_lt
        exact fun h => h9 ⟨hk9, h⟩
      have hm : c.toNat % 128 ≤ 1 := by omega
      have := Nat.mul_le_mul_right (2 ^ (7 * k)) hm
      have hp := Nat.two_pow_pos (7 * k)
      omega
  · omega
  · unfold uvarintFrom
    rw [if_neg (by omega), if_pos hlt, if_neg h9, Nat.mod_eq_of_lt hlt]
    simp
  · rw [uvarintFrom, if_neg (by omega), if_neg hge]

theorem drop_cons {L : List UInt8} {n : Nat} (h : n < L.length) : L.drop n = L[n] :: L.drop (n + 1) := List.drop_eq_getElem_cons h


set_option maxRecDepth 100000 in
set_option maxHeartbeats 2000000 in
theorem rv_any (g cap : Nat) (L : List UInt8) (p : Nat) (w : World) (hp : p ≤ L.length) (hL : L.length ≤ 1048576) (hbuf : BufAt w g 0 L) :
    Calls Tryf.prog 14 #[.slice (some ⟨g, 0, none⟩) L.length cap, .int .i64 (p : Int)] w (RvPost L p w) := by
  have HBUF : Hid (BufAt w g 0 L) := hbuf
  clear hbuf
  go_enter Tryf.func14, Tryf.ntmps14
  go_wp2
  go_loop [7, 8] (fun v c => ∃ k acc : Nat, k ≤ 10 ∧ c = .int .i64 (k : Int) ∧ v = .int .u64 (acc : Int) ∧ acc < 2 ^ (7 * k) ∧ p + k ≤ L.length ∧ uvarintFrom 0 0 (L.drop p) = uvarintFrom k acc (L.drop (p + k))) (fun _ c => 10 - (RowKit.intOf c).toNat)
  case atStart => exact ⟨0, 0, by omega, rfl, rfl, by decide, by omega, rfl⟩
  case round =>
    obtain ⟨k, acc, hk, rfl, rfl, hacc, hpk, hrel⟩ := hrel
    have HREL : Hid (uvarintFrom 0 0 (L.drop p) = uvarintFrom k acc (L.drop (p + k))) := hrel
    have HACC : Hid (acc < 2 ^ (7 * k)) := hacc
    clear hrel hacc
    by_cases h10 : k < 10
    · by_cases hend : p + k < L.length
      · have hby := HBUF.out (p + k) hend
        rw [Nat.zero_add] at hby
        have hdc := drop_cons hend
        generalize L[p + k] = c at hby hdc
        have HDC : Hid (L.drop (p + k) = c :: L.drop (p + k + 1)) := hdc
        clear hdc
        have hc256 := c.toNat_lt
        by_cases h9 : k = 9 ∧ 1 < c.toNat
        · obtain ⟨h9, hc1⟩ := h9
          subst h9
          have hbad : (uvarintFrom 0 0 (L.drop p)).2 ≤ 0 := by
            rw [HREL.out, HDC.out]
            unfold uvarintFrom
            rw [if_neg (by omega)]
            by_cases hlt : c.toNat < 128
            · rw [if_pos hlt, if_pos ⟨rfl, hc1⟩]; simp
            · rw [if_neg hlt]
              cases L.drop (p + 9 + 1) with
              | nil => simp [uvarintFrom]
              | cons b r => simp [uvarintFrom]
          have HB : Hid (RvPost L p w (.returned (.tuple #[.int .u64 0, .int .i64 (p : Int), .bool false])) w) := rv_bad w hbad
          clear hbad
          go_wp2
          go_ret3
          exact HB.out
        · have hb7 := bit127 ⟨c.toNat, hc256⟩
          simp only at hb7
          obtain ⟨g1, g2, g3, g4, g5⟩ := rv_step c (L.drop (p + k + 1)) k acc h10 h9 HACC.out
          have hk9 : ¬ (k = 9 ∧ 1 < c.toNat) := h9
          have hmod : c.toNat < 128 → c.toNat % 128 = c.toNat := fun h => Nat.mod_eq_of_lt h
          have hd : c.toNat % 128 < 128 := Nat.mod_lt _ (by omega)
          obtain ⟨d, hde⟩ : ∃ d, d = c.toNat % 128 := ⟨_, rfl⟩
          rw [← hde] at hb7 g1 g3 g4 g5 hd
          obtain ⟨sh, hshe⟩ : ∃ sh, sh = d * 2 ^ (7 * k) := ⟨_, rfl⟩
          rw [← hshe] at g1 g3 g4 g5
          have HOR : Hid (bits .or .u64 (acc : Int) (IntKind.u64.wrap ((d : Int) * 2 ^ (7 * k))) = ((acc + sh : Nat) : Int)) := or_val acc d k sh hshe g1 HACC.out g2
          have G3 : Hid (acc + sh < 2 ^ (7 * (k + 1))) := g3
          have G5 : Hid (¬ c.toNat < 128 → uvarintFrom k acc (c :: L.drop (p + k + 1)) = uvarintFrom (k + 1) (acc + sh) (L.drop (p + k + 1))) := g5
          have G4 : Hid (c.toNat < 128 → RvPost L p w (.returned (.tuple #[.int .u64 ((acc + sh : Nat) : Int), .int .i64 ((p + (k + 1) : Nat) : Int), .bool true])) w) := fun h => rv_good w (by rw [HREL.out, HDC.out]; exact g4 h)
          clear g3 g4 g5 hmod hde hshe hk9
          by_cases hk9 : k = 9
          · have hc1 : ¬ 1 < c.toNat := fun h => h9 ⟨hk9, h⟩
            clear h9
            have hc128 : c.toNat < 128 := by omega
            subst hk9
            have H9 : Hid (bits .or .u64 (acc : Int) (IntKind.u64.wrap ((d : Int) * 9223372036854775808)) = ((acc + sh : Nat) : Int)) := HOR.out
            have GG : Hid (RvPost L p w (.returned (.tuple #[.int .u64 (bits .or .u64 (acc : Int) (IntKind.u64.wrap ((d : Int) * 9223372036854775808))), .int .i64 ((p : Int) + 9 + 1), .bool true])) w) := by
              have h := G4.out hc128
              rw [show ((p + (9 + 1) : Nat) : Int) = (p : Int) + 9 + 1 by omega, ← H9.out] at h
              exact h
            go_wp2
            go_ret3
            exact GG.out
          · clear h9
            have hk9I : ¬ (k : Int) = 9 := by omega
            by_cases hc128 : c.toNat < 128
            · have GG : Hid (RvPost L p w (.returned (.tuple #[.int .u64 (bits .or .u64 (acc : Int) (IntKind.u64.wrap ((d : Int) * 2 ^ (7 * k)))), .int .i64 ((p : Int) + (k : Int) + 1), .bool true])) w) := by
                have h := G4.out hc128
                rw [show ((p + (k + 1) : Nat) : Int) = (p : Int) + (k : Int) + 1 by omega, ← HOR.out] at h
                exact h
              go_wp2
              go_ret3
              exact GG.out
            · have REL : Hid (uvarintFrom 0 0 (L.drop p) = uvarintFrom (k + 1) (acc + sh) (L.drop (p + (k + 1)))) := by
                show _ = _
                rw [HREL.out, HDC.out, G5.out hc128]
                rfl
              have hend' : p + (k + 1) ≤ L.length := by omega
              go_wp2
              refine ⟨⟨k + 1, acc + sh, by omega, by simp, ?_, G3.out, hend', REL.out⟩, ?_⟩
              · rw [HOR.out]
              · simp [RowKit.intOf]; omega
      · have hnil : L.drop (p + k) = [] := List.drop_eq_nil_of_le (by omega)
        have : (uvarintFrom 0 0 (L.drop p)).2 ≤ 0 := by rw [HREL.out, hnil]; simp [uvarintFrom]
        have HB : Hid (RvPost L p w (.returned (.tuple #[.int .u64 0, .int .i64 (p : Int), .bool false])) w) := rv_bad w this
        clear hnil this
        go_wp2
        go_ret3
        exact HB.out
    · have hk10 : k = 10 := by omega
      subst hk10
      have : (uvarintFrom 0 0 (L.drop p)).2 ≤ 0 := by
        rw [HREL.out]
        cases L.drop (p + 10) with
        | nil => simp [uvarintFrom]
        | cons b r => simp [uvarintFrom]
      have HB : Hid (RvPost L p w (.returned (.tuple #[.int .u64 0, .int .i64 (p : Int), .bool false])) w) := rv_bad w this
      clear this
      go_wp2
      go_ret3
      exact HB.out
end Go.Proofs.Qxb6616623aFmt
