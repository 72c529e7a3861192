/-
  DERIVED. GIVEN WITH THE SEED: THE CARDS: each row of YtfldnaoaepbgiaaFmtRows.lean that lists a variable, with what it lists TIED to the program's text (the seventh form; the later family's looks); each row that meets fmt, with fmt's text TOLD by the authors' own Lean function (tested against real Go, not proved from fmt's source: count such statements apart). THE CARD IS WHAT COUNTS. Prove the row's statement (the work); the ties are given (YtfldnaoaepbgiaaFmtTie.lean); close each card by the builder's one call (the guide's Derived/Test/ToyasCard.lean, 'card_holds'). Laid BY PROGRAM, IN A SANDBOX (cutbox-door.mjs). By AI agents, Wed Nov 11 2026. No macro, syntax, notation, axiom, sorry.
-/
import Derived.Test.YtfldnaoaepbgiaaFmtRows
import GoSem.ClaimSeven
namespace Go.Proofs.YtfldnaoaepbgiaaFmt
namespace Rows

/-- THE TOLD CARD OF 'n025_45.FnLiteralGoStringDecodesBothFields'. -/
def fnLiteralGoStringDecodesBothFieldsCard : Claim7 := { stood := { row := fnLiteralGoStringDecodesBothFieldsRow, standIns := [], harness := (true, "148c0e9a3d2596b42915f112a11fb8f35aba2fb469d39fafe8cccffaa5480e45"), looks := false }, told := true, goes := false }
def FnLiteralGoStringDecodesBothFieldsToldSaid : Prop := Claim7.holds Tryf.pinned (.plain (OpenSpec.ofChange fnLiteralGoStringDecodesBothFieldsSpec)) fnLiteralGoStringDecodesBothFieldsCard
/-- ITS FALSE NEIGHBOUR. Refute it at one input. -/
def FnLiteralGoStringDecodesBothFieldsToldWrongFalsely : Prop := Claim7.holds Tryf.pinned (.plain (OpenSpec.ofChange fnLiteralGoStringDecodesBothFieldsWrong)) fnLiteralGoStringDecodesBothFieldsCard
end Rows
end Go.Proofs.YtfldnaoaepbgiaaFmt
