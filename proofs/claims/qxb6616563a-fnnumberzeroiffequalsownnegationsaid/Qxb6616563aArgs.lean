/-
  From a slice of bytes that came in to its bytes as a function.
-/
import Derived.Test.Qxb6616563aDigs
import Derived.ProofKit
import Derived.OpenShut
namespace Go.Proofs.Qxb6616563a
open Go.ChangeShapes Go.WideShapes Go.ChangeAt Go.RowKit

theorem bts_of (b off len cap : Nat) (z0 : List Int) (w : World) (hlc : len ≤ cap) (hzl : z0.length = cap) (hcell : ∀ i, i < z0.length → w.cell? ((⟨b, off, none⟩ : Addr).add i) = some (.int .u8 (z0.getD i 0))) (hwf : ∀ n ∈ z0, (Lit.int .u8 n).wf = true) : Bts w b off len (fun i => (z0.getD i 0).toNat) := by
  intro i hi
  have h1 := hcell i (by omega)
  rw [add_plain] at h1
  rw [h1]
  have hm : z0.getD i 0 ∈ z0 := by
    rw [List.getD_eq_getElem?_getD, List.getElem?_eq_getElem (by omega), Option.getD_some]
    exact List.getElem_mem _
  have hb := bounds_u8 (hwf _ hm)
  show some (Value.int .u8 (z0.getD i 0)) = some (.int .u8 (((z0.getD i 0).toNat : Nat) : Int))
  congr 2
  omega

end Go.Proofs.Qxb6616563a
