/-
  No cell of these rows narrows 'for every input' (looked for: loops, veiled, ifaces, maps, wideKeys, modest, calm, conditions, laid).
  DERIVED. THE GIVEN ROWS OF THIS SEAT. 3 by the template 'for every input the law returns true; each argument reads behind the call as it read before'; 0 by the template 'total and deterministic' (their statements: Qxb6616623aFmtTotals.lean).
  GIVEN WITH THE SEED: the statements are not yours to turn. If you find one false, say at which input.
  Laid BY PROGRAM, IN A SANDBOX (cutbox-rows.mjs): the forced cells as the released guide's own fill.sh prints them over the translation 089a41094eeb1b36… (all of the seat's roots in one cut). By AI agents, Wed Nov 11 2026. No macro, syntax, notation, axiom, sorry.
-/
import Derived.Test.Qxb6616623aFmtChecked
import GoSem.Claim
import GoSem.ClaimJoined
import GoSem.ClaimMapViews
import Derived.JoinedTies
import Derived.KernelRfl
namespace Go.Proofs.Qxb6616623aFmt
/- THE CELL 'sum', in the pinned program and in every row, IS THE sha256 OF THE DUMP (.gsa) THAT Qxb6616623aFmtProg.lean LOADS. Nothing in Lean hashes anything: it is a label: what it is worth is what the hold of that sum in a sandbox is worth. -/
noncomputable def Tryf.pinned : Pinned := { name := "qxb6616623afmt", sum := "089a41094eeb1b36d5f8d00a6c3d16452a88914df719a0e461b44e6bd8d39275", checked := Tryf.checked }
namespace Rows
def none {H : Type} : Left H := { results := [], args := [] }

/-- 'zzlaws_internal_protocol_b1.FnDecodeMessageMeetsWireGrammar': WHATEVER THE INPUT: true; the input reads as it did. -/
def fnDecodeMessageMeetsWireGrammarSpec : ChangeSpec := { name := "fnDecodeMessageMeetsWireGrammar", fn := fun _ => fun
  | [d] => { results := [.lit (.bool true)], args := [d] }
  | _ => none }
def fnDecodeMessageMeetsWireGrammarRow : OpenClaim := { program := "qxb6616623afmt", sum := "089a41094eeb1b36d5f8d00a6c3d16452a88914df719a0e461b44e6bd8d39275", func := "example.com/witan/witan/zzlaws_internal_protocol_b1.FnDecodeMessageMeetsWireGrammar", spec := "fnDecodeMessageMeetsWireGrammar", stops := ["fmt.errorf"], inPlace := ["fmt.errorf"], apart := false }
/-- NO THEOREM (fmt's text is open here; it may be false): for the released tool's asking of the row's closed facts alone. THE STATEMENT IS 'FnDecodeMessageMeetsWireGrammarToldSaid' (Qxb6616623aFmtCards.lean). -/
def FnDecodeMessageMeetsWireGrammarFormAsk : Prop := fnDecodeMessageMeetsWireGrammarRow.holds Tryf.pinned (OpenSpec.ofChange fnDecodeMessageMeetsWireGrammarSpec)

/-- ITS FALSE NEIGHBOUR: 'it returns false'. Refute it at one input. -/
def fnDecodeMessageMeetsWireGrammarWrong : ChangeSpec := { name := "fnDecodeMessageMeetsWireGrammar", fn := fun _ => fun
  | [d] => { results := [.lit (.bool false)], args := [d] }
  | _ => none }
def FnDecodeMessageMeetsWireGrammarWrongFormAsk : Prop := fnDecodeMessageMeetsWireGrammarRow.holds Tryf.pinned (OpenSpec.ofChange fnDecodeMessageMeetsWireGrammarWrong)

/-- 'zzlaws_internal_protocol_b1.FnDecodeMessageIsPrefixFree': WHATEVER THE INPUT: true; the input reads as it did. -/
def fnDecodeMessageIsPrefixFreeSpec : ChangeSpec := { name := "fnDecodeMessageIsPrefixFree", fn := fun _ => fun
  | [d1, d2] => { results := [.lit (.bool true)], args := [d1, d2] }
  | _ => none }
def fnDecodeMessageIsPrefixFreeRow : OpenClaim := { program := "qxb6616623afmt", sum := "089a41094eeb1b36d5f8d00a6c3d16452a88914df719a0e461b44e6bd8d39275", func := "example.com/witan/witan/zzlaws_internal_protocol_b1.FnDecodeMessageIsPrefixFree", spec := "fnDecodeMessageIsPrefixFree", stops := ["fmt.errorf"], inPlace := ["fmt.errorf"], apart := false }
/-- NO THEOREM (fmt's text is open here; it may be false): for the released tool's asking of the row's closed facts alone. THE STATEMENT IS 'FnDecodeMessageIsPrefixFreeToldSaid' (Qxb6616623aFmtCards.lean). -/
def FnDecodeMessageIsPrefixFreeFormAsk : Prop := fnDecodeMessageIsPrefixFreeRow.holds Tryf.pinned (OpenSpec.ofChange fnDecodeMessageIsPrefixFreeSpec)

/-- ITS FALSE NEIGHBOUR: 'it returns false'. Refute it at one input. -/
def fnDecodeMessageIsPrefixFreeWrong : ChangeSpec := { name := "fnDecodeMessageIsPrefixFree", fn := fun _ => fun
  | [d1, d2] => { results := [.lit (.bool false)], args := [d1, d2] }
  | _ => none }
def FnDecodeMessageIsPrefixFreeWrongFormAsk : Prop := fnDecodeMessageIsPrefixFreeRow.holds Tryf.pinned (OpenSpec.ofChange fnDecodeMessageIsPrefixFreeWrong)

/-- 'zzlaws_internal_protocol_b1.FnEncodeRefIsReadAsAnEntrysInstance': WHATEVER THE INPUT: true; the input reads as it did. -/
def fnEncodeRefIsReadAsAnEntrysInstanceSpec : ChangeSpec := { name := "fnEncodeRefIsReadAsAnEntrysInstance", fn := fun _ => fun
  | [d1, d2] => { results := [.lit (.bool true)], args := [d1, d2] }
  | _ => none }
def fnEncodeRefIsReadAsAnEntrysInstanceRow : OpenClaim := { program := "qxb6616623afmt", sum := "089a41094eeb1b36d5f8d00a6c3d16452a88914df719a0e461b44e6bd8d39275", func := "example.com/witan/witan/zzlaws_internal_protocol_b1.FnEncodeRefIsReadAsAnEntrysInstance", spec := "fnEncodeRefIsReadAsAnEntrysInstance", stops := ["fmt.errorf"], inPlace := ["fmt.errorf"], apart := false }
/-- NO THEOREM (fmt's text is open here; it may be false): for the released tool's asking of the row's closed facts alone. THE STATEMENT IS 'FnEncodeRefIsReadAsAnEntrysInstanceToldSaid' (Qxb6616623aFmtCards.lean). -/
def FnEncodeRefIsReadAsAnEntrysInstanceFormAsk : Prop := fnEncodeRefIsReadAsAnEntrysInstanceRow.holds Tryf.pinned (OpenSpec.ofChange fnEncodeRefIsReadAsAnEntrysInstanceSpec)

/-- ITS FALSE NEIGHBOUR: 'it returns false'. Refute it at one input. -/
def fnEncodeRefIsReadAsAnEntrysInstanceWrong : ChangeSpec := { name := "fnEncodeRefIsReadAsAnEntrysInstance", fn := fun _ => fun
  | [d1, d2] => { results := [.lit (.bool false)], args := [d1, d2] }
  | _ => none }
def FnEncodeRefIsReadAsAnEntrysInstanceWrongFormAsk : Prop := fnEncodeRefIsReadAsAnEntrysInstanceRow.holds Tryf.pinned (OpenSpec.ofChange fnEncodeRefIsReadAsAnEntrysInstanceWrong)

end Rows
end Go.Proofs.Qxb6616623aFmt
