/-
  No cell of these rows narrows 'for every input' (looked for: loops, veiled, ifaces, maps, wideKeys, modest, calm, conditions, laid).
  DERIVED. THE GIVEN ROWS OF THIS SEAT. 2 by the template 'for every input the law returns true; each argument reads behind the call as it read before'; 0 by the template 'total and deterministic' (their statements: Qxb6616523aTotals.lean).
  GIVEN WITH THE SEED: the statements are not yours to turn. If you find one false, say at which input.
  Laid BY PROGRAM, IN A SANDBOX (cutbox-rows.mjs): the forced cells as the released guide's own fill.sh prints them over the translation 9eb7c12907c1e3df… (all of the seat's roots in one cut). By AI agents, Wed Nov 11 2026. No macro, syntax, notation, axiom, sorry.
-/
import Derived.Test.Qxb6616523aChecked
import GoSem.Claim
import GoSem.ClaimJoined
import GoSem.ClaimMapViews
import Derived.JoinedTies
import Derived.KernelRfl
namespace Go.Proofs.Qxb6616523a
/- THE CELL 'sum', in the pinned program and in every row, IS THE sha256 OF THE DUMP (.gsa) THAT Qxb6616523aProg.lean LOADS. Nothing in Lean hashes anything: it is a label: what it is worth is what the hold of that sum in a sandbox is worth. -/
noncomputable def Try.pinned : Pinned := { name := "qxb6616523a", sum := "9eb7c12907c1e3dfb69eb3094e895420b5eb38521939a54e0c4a304b423f5faa", checked := Try.checked }
namespace Rows
def none {H : Type} : Left H := { results := [], args := [] }

/-- 'zzlaws_document_b1.FnAPINameAtAnyCut': WHATEVER THE INPUT: true; the input reads as it did. -/
def fnAPINameAtAnyCutSpec : ChangeSpec := { name := "fnAPINameAtAnyCut", fn := fun _ => fun
  | [d1, d2] => { results := [.lit (.bool true)], args := [d1, d2] }
  | _ => none }
def fnAPINameAtAnyCutRow : OpenClaim := { program := "qxb6616523a", sum := "9eb7c12907c1e3dfb69eb3094e895420b5eb38521939a54e0c4a304b423f5faa", func := "example.com/kinmint/kinmint/zzlaws_document_b1.FnAPINameAtAnyCut", spec := "fnAPINameAtAnyCut", unfollowed := true, recurses := true, apart := false }
def FnAPINameAtAnyCutSaid : Prop := fnAPINameAtAnyCutRow.holds Try.pinned (OpenSpec.ofChange fnAPINameAtAnyCutSpec)

/-- ITS FALSE NEIGHBOUR: 'it returns false'. Refute it at one input. -/
def fnAPINameAtAnyCutWrong : ChangeSpec := { name := "fnAPINameAtAnyCut", fn := fun _ => fun
  | [d1, d2] => { results := [.lit (.bool false)], args := [d1, d2] }
  | _ => none }
def FnAPINameAtAnyCutWrongFalsely : Prop := fnAPINameAtAnyCutRow.holds Try.pinned (OpenSpec.ofChange fnAPINameAtAnyCutWrong)

/-- 'zzlaws_document_b1.FnAPINameWithOneByteInserted': WHATEVER THE INPUT: true; the input reads as it did. -/
def fnAPINameWithOneByteInsertedSpec : ChangeSpec := { name := "fnAPINameWithOneByteInserted", fn := fun _ => fun
  | [d1, d2, d3] => { results := [.lit (.bool true)], args := [d1, d2, d3] }
  | _ => none }
def fnAPINameWithOneByteInsertedRow : OpenClaim := { program := "qxb6616523a", sum := "9eb7c12907c1e3dfb69eb3094e895420b5eb38521939a54e0c4a304b423f5faa", func := "example.com/kinmint/kinmint/zzlaws_document_b1.FnAPINameWithOneByteInserted", spec := "fnAPINameWithOneByteInserted", unfollowed := true, recurses := true, apart := false }
def FnAPINameWithOneByteInsertedSaid : Prop := fnAPINameWithOneByteInsertedRow.holds Try.pinned (OpenSpec.ofChange fnAPINameWithOneByteInsertedSpec)

/-- ITS FALSE NEIGHBOUR: 'it returns false'. Refute it at one input. -/
def fnAPINameWithOneByteInsertedWrong : ChangeSpec := { name := "fnAPINameWithOneByteInserted", fn := fun _ => fun
  | [d1, d2, d3] => { results := [.lit (.bool false)], args := [d1, d2, d3] }
  | _ => none }
def FnAPINameWithOneByteInsertedWrongFalsely : Prop := fnAPINameWithOneByteInsertedRow.holds Try.pinned (OpenSpec.ofChange fnAPINameWithOneByteInsertedWrong)

end Rows
end Go.Proofs.Qxb6616523a
