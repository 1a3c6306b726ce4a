/-
  From a slice of bytes that came in to its list of bytes.
-/
import Derived.Test.Qxb6616623aFmtDec
import Derived.ProofKit
import Derived.OpenShut
namespace Go.Proofs.Qxb6616623aFmt
open Go.ChangeShapes Go.WideShapes Go.ChangeAt Go.RowKit

/-- A slice of bytes that came in: it is nil; or it leads to a row of 'cap' cells. -/
def IsRow (k : IntKind) (w : World) (a : Option Addr) (len cap : Nat) (zs : List Int) : Prop :=
  (a = none ∧ len = 0 ∧ cap = 0 ∧ zs = []) ∨
  ∃ x, a = some x ∧ len ≤ cap ∧ cap ≤ maxLen ∧ zs.length = cap ∧ (∀ i, i < zs.length → w.cell? (x.add i) = some (.int k (zs.getD i 0))) ∧ ∀ n ∈ zs, (Lit.int k n).wf = true

def bytesOf (z : List Int) (len : Nat) : List UInt8 := (z.take len).map fun n => UInt8.ofNat n.toNat

theorem bytesOf_length (z : List Int) (len : Nat) (h : len ≤ z.length) : (bytesOf z len).length = len := by
  unfold bytesOf
  rw [List.length_map, List.length_take]
  omega

theorem buf_of (b off len cap : Nat) (z0 : List Int) (w : World) (hlc : len ≤ cap) (hzl : z0.length = cap) (hcell : ∀ i, i < z0.length → w.cell? ((⟨b, off, none⟩ : Addr).add i) = some (.int .u8 (z0.getD i 0))) (hwf : ∀ n ∈ z0, (Lit.int .u8 n).wf = true) : BufAt w b off (bytesOf z0 len) := by
  intro i hi
  have hi' : i < len := by rw [bytesOf_length z0 len (by omega)] at hi; exact hi
  have h1 := hcell i (by omega)
  rw [show ((⟨b, off, none⟩ : Addr).add i) = ⟨b, off + i, none⟩ from by simp [Addr.add]] at h1
  rw [h1]
  have hg : z0.getD i 0 = z0[i]'(by omega) := by rw [List.getD_eq_getElem?_getD, List.getElem?_eq_getElem (by omega), Option.getD_some]
  have hb : 0 ≤ z0.getD i 0 ∧ z0.getD i 0 ≤ 255 := by
    have := hwf _ (hg ▸ List.getElem_mem _)
    simpa [Lit.wf, IntKind.min, IntKind.max, IntKind.signed, IntKind.bits] using this
  have he : (bytesOf z0 len)[i] = UInt8.ofNat (z0.getD i 0).toNat := by
    simp only [bytesOf, List.getElem_map, List.getElem_take, hg]
  rw [he]
  have : (UInt8.ofNat (z0.getD i 0).toNat).toNat = (z0.getD i 0).toNat := by
    rw [UInt8.toNat_ofNat']
    exact Nat.mod_eq_of_lt (by omega)
  rw [this]
  congr 2
  omega
end Go.Proofs.Qxb6616623aFmt
