/-
  The plain law under the two statements of seat b6616523a: a string is a name (as the library's ContainsFunc finds by runes) exactly when each of its bytes is A-Z, 0-9 or _. No Go text is run here.
-/
import Derived.Shelf.GgClosure.StringsIndexFunc
import Derived.Lib.DecodeN
namespace Go.Proofs.Qxb6616523a
open Go.Lib

def apiN (n : Nat) : Bool := n == 95 || (decide (48 ≤ n) && decide (n ≤ 57)) || (decide (65 ≤ n) && decide (n ≤ 90))
def allApi (l : List UInt8) : Bool := l.all fun b => apiN b.toNat
def nameL (l : List UInt8) : Bool := !l.isEmpty && allApi l
def notName (r : Nat) : Bool := !apiN r

theorem apiN_high (n : Nat) (h : 128 ≤ n) : apiN n = false := by
  unfold apiN
  rw [Bool.eq_false_iff]
  intro hh
  simp at hh
  omega

theorem decode_low (s : ByteArray) (i : Nat) (h : (s.get! i).toNat < 128) : Utf8.decode s i = ((s.get! i).toNat, 1) := by
  rw [decode_at]; unfold decodeN; rw [if_pos h]

theorem decode_high (s : ByteArray) (i : Nat) (h : ¬ (s.get! i).toNat < 128) : 128 ≤ (Utf8.decode s i).1 := by
  rw [decode_at]; unfold decodeN; rw [if_neg h]
  repeat' split
  all_goals first | omega | (simp only; omega)

theorem drop_get (s : ByteArray) (i : Nat) (h : i < s.size) : s.data.toList.drop i = s.get! i :: s.data.toList.drop (i + 1) := by
  have h' : i < s.data.toList.length := by simpa using h
  rw [List.drop_eq_getElem_cons h']
  congr 1
  have hd : i < s.data.size := by simpa using h
  show _ = s.data[i]!
  rw [getElem!_pos s.data i hd]
  simp

theorem idx_from (s : ByteArray) : ∀ (f pos : Nat), s.size ≤ pos + f → decide (0 ≤ idxFuncFrom notName true s f pos) = !allApi (s.data.toList.drop pos)
  | 0, pos, h => by
    have : s.data.toList.drop pos = [] := List.drop_eq_nil_of_le (by simpa using h)
    rw [this]; simp [idxFuncFrom, allApi]
  | f + 1, pos, h => by
    by_cases hp : pos < s.size
    · have hd := drop_get s pos hp
      unfold idxFuncFrom
      rw [if_pos hp, hd]
      by_cases ha : (s.get! pos).toNat < 128
      · rw [decode_low s pos ha]
        by_cases hn : apiN (s.get! pos).toNat = true
        · have e : notName (s.get! pos).toNat = false := by simp [notName, hn]
          rw [if_neg (by rw [e]; simp), idx_from s f (pos + 1) (by omega)]
          simp [allApi, hn]
        · have e : notName (s.get! pos).toNat = true := by simp [notName, hn]
          rw [if_pos e]
          simp only [Bool.not_eq_true] at hn
          simp [allApi, hn]
      · have hr := apiN_high _ (decode_high s pos ha)
        have hb := apiN_high (s.get! pos).toNat (by omega)
        have e : notName (Utf8.decode s pos).1 = true := by simp [notName, hr]
        rw [if_pos e]
        simp [allApi, hb]
    · have : s.data.toList.drop pos = [] := List.drop_eq_nil_of_le (by simpa using hp)
      rw [this, idxFuncFrom_end _ _ _ _ _ hp]; simp [allApi]

theorem idx_all (s : ByteArray) : decide (0 ≤ idxFunc notName true s) = !allApi s.data.toList := by
  exact idx_from s s.size 0 (by omega)

theorem allApi_append (a b : List UInt8) : allApi (a ++ b) = (allApi a && allApi b) := by simp [allApi]
end Go.Proofs.Qxb6616523a
