/-
  DERIVED. GIVEN WITH THE SEED: THE CARDS: each row of Qxb6616623aFmtRows.lean that lists a variable, with what it lists TIED to the program's text (the seventh form; the later family's looks); each row that meets fmt, with fmt's text TOLD by the authors' own Lean function (tested against real Go, not proved from fmt's source: count such statements apart). THE CARD IS WHAT COUNTS. Prove the row's statement (the work); the ties are given (Qxb6616623aFmtTie.lean); close each card by the builder's one call (the guide's Derived/Test/ToyasCard.lean, 'card_holds'). Laid BY PROGRAM, IN A SANDBOX (cutbox-door.mjs). By AI agents, Wed Nov 11 2026. No macro, syntax, notation, axiom, sorry.
-/
import Derived.Test.Qxb6616623aFmtRows
import GoSem.ClaimSeven
namespace Go.Proofs.Qxb6616623aFmt
namespace Rows

/-- THE TOLD CARD OF 'zzlaws_internal_protocol_b1.FnDecodeMessageMeetsWireGrammar'. -/
def fnDecodeMessageMeetsWireGrammarCard : Claim7 := { stood := { row := fnDecodeMessageMeetsWireGrammarRow, standIns := [], harness := (true, "09ff889ad6e1c29b615f23a694eb7004077d9fde7d38d6abb4187e6464c89f67"), looks := false }, told := true, goes := false }
def FnDecodeMessageMeetsWireGrammarToldSaid : Prop := Claim7.holds Tryf.pinned (.plain (OpenSpec.ofChange fnDecodeMessageMeetsWireGrammarSpec)) fnDecodeMessageMeetsWireGrammarCard
/-- ITS FALSE NEIGHBOUR. Refute it at one input. -/
def FnDecodeMessageMeetsWireGrammarToldWrongFalsely : Prop := Claim7.holds Tryf.pinned (.plain (OpenSpec.ofChange fnDecodeMessageMeetsWireGrammarWrong)) fnDecodeMessageMeetsWireGrammarCard

/-- THE TOLD CARD OF 'zzlaws_internal_protocol_b1.FnDecodeMessageIsPrefixFree'. -/
def fnDecodeMessageIsPrefixFreeCard : Claim7 := { stood := { row := fnDecodeMessageIsPrefixFreeRow, standIns := [], harness := (true, "09ff889ad6e1c29b615f23a694eb7004077d9fde7d38d6abb4187e6464c89f67"), looks := false }, told := true, goes := false }
def FnDecodeMessageIsPrefixFreeToldSaid : Prop := Claim7.holds Tryf.pinned (.plain (OpenSpec.ofChange fnDecodeMessageIsPrefixFreeSpec)) fnDecodeMessageIsPrefixFreeCard
/-- ITS FALSE NEIGHBOUR. Refute it at one input. -/
def FnDecodeMessageIsPrefixFreeToldWrongFalsely : Prop := Claim7.holds Tryf.pinned (.plain (OpenSpec.ofChange fnDecodeMessageIsPrefixFreeWrong)) fnDecodeMessageIsPrefixFreeCard

/-- THE TOLD CARD OF 'zzlaws_internal_protocol_b1.FnEncodeRefIsReadAsAnEntrysInstance'. -/
def fnEncodeRefIsReadAsAnEntrysInstanceCard : Claim7 := { stood := { row := fnEncodeRefIsReadAsAnEntrysInstanceRow, standIns := [], harness := (true, "09ff889ad6e1c29b615f23a694eb7004077d9fde7d38d6abb4187e6464c89f67"), looks := false }, told := true, goes := false }
def FnEncodeRefIsReadAsAnEntrysInstanceToldSaid : Prop := Claim7.holds Tryf.pinned (.plain (OpenSpec.ofChange fnEncodeRefIsReadAsAnEntrysInstanceSpec)) fnEncodeRefIsReadAsAnEntrysInstanceCard
/-- ITS FALSE NEIGHBOUR. Refute it at one input. -/
def FnEncodeRefIsReadAsAnEntrysInstanceToldWrongFalsely : Prop := Claim7.holds Tryf.pinned (.plain (OpenSpec.ofChange fnEncodeRefIsReadAsAnEntrysInstanceWrong)) fnEncodeRefIsReadAsAnEntrysInstanceCard
end Rows
end Go.Proofs.Qxb6616623aFmt
