/-
  No cell of these rows narrows 'for every input' (looked for: loops, veiled, ifaces, maps, wideKeys, modest, calm, conditions, laid).
  DERIVED. THE GIVEN ROWS OF THIS SEAT. 1 by the template 'for every input the law returns true; each argument reads behind the call as it read before'; 0 by the template 'total and deterministic' (their statements: Qxb6616623aTotals.lean).
  GIVEN WITH THE SEED: the statements are not yours to turn. If you find one false, say at which input.
  Laid BY PROGRAM, IN A SANDBOX (cutbox-rows.mjs): the forced cells as the released guide's own fill.sh prints them over the translation 1b49080e169bfd02… (all of the seat's roots in one cut). By AI agents, Wed Nov 11 2026. No macro, syntax, notation, axiom, sorry.
-/
import Derived.Test.Qxb6616623aChecked
import GoSem.Claim
import GoSem.ClaimJoined
import GoSem.ClaimMapViews
import Derived.JoinedTies
import Derived.KernelRfl
namespace Go.Proofs.Qxb6616623a
/- THE CELL 'sum', in the pinned program and in every row, IS THE sha256 OF THE DUMP (.gsa) THAT Qxb6616623aProg.lean LOADS. Nothing in Lean hashes anything: it is a label: what it is worth is what the hold of that sum in a sandbox is worth. -/
noncomputable def Try.pinned : Pinned := { name := "qxb6616623a", sum := "1b49080e169bfd027166b18def5ac4f5e641be6edd0cdb6854bebd0a34ce966c", checked := Try.checked }
namespace Rows
def none {H : Type} : Left H := { results := [], args := [] }

/-- 'zzlaws_internal_protocol_b1.FnEncodeRefIsTwoShortestVarints': WHATEVER THE INPUT: true; the input reads as it did. -/
def fnEncodeRefIsTwoShortestVarintsSpec : ChangeSpec := { name := "fnEncodeRefIsTwoShortestVarints", fn := fun _ => fun
  | [d1, d2] => { results := [.lit (.bool true)], args := [d1, d2] }
  | _ => none }
def fnEncodeRefIsTwoShortestVarintsRow : OpenClaim := { program := "qxb6616623a", sum := "1b49080e169bfd027166b18def5ac4f5e641be6edd0cdb6854bebd0a34ce966c", func := "example.com/witan/witan/zzlaws_internal_protocol_b1.FnEncodeRefIsTwoShortestVarints", spec := "fnEncodeRefIsTwoShortestVarints", apart := false }
def FnEncodeRefIsTwoShortestVarintsSaid : Prop := fnEncodeRefIsTwoShortestVarintsRow.holds Try.pinned (OpenSpec.ofChange fnEncodeRefIsTwoShortestVarintsSpec)

/-- ITS FALSE NEIGHBOUR: 'it returns false'. Refute it at one input. -/
def fnEncodeRefIsTwoShortestVarintsWrong : ChangeSpec := { name := "fnEncodeRefIsTwoShortestVarints", fn := fun _ => fun
  | [d1, d2] => { results := [.lit (.bool false)], args := [d1, d2] }
  | _ => none }
def FnEncodeRefIsTwoShortestVarintsWrongFalsely : Prop := fnEncodeRefIsTwoShortestVarintsRow.holds Try.pinned (OpenSpec.ofChange fnEncodeRefIsTwoShortestVarintsWrong)

end Rows
end Go.Proofs.Qxb6616623a
