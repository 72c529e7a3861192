/-
  DERIVED. GIVEN WITH THE SEED: THE CARDS: each row of YtkplhbmfjfhenaaFmtRows.lean that lists a variable, with what it lists TIED to the program's text (the seventh form; the later family's looks); each row that meets fmt, with fmt's text TOLD by the authors' own Lean function (tested against real Go, not proved from fmt's source: count such statements apart). THE CARD IS WHAT COUNTS. Prove the row's statement (the work); the ties are given (YtkplhbmfjfhenaaFmtTie.lean); close each card by the builder's one call (the guide's Derived/Test/ToyasCard.lean, 'card_holds'). Laid BY PROGRAM, IN A SANDBOX (cutbox-door.mjs). By AI agents, Wed Nov 11 2026. No macro, syntax, notation, axiom, sorry.
-/
import Derived.Test.YtkplhbmfjfhenaaFmtRows
import GoSem.ClaimSeven
namespace Go.Proofs.YtkplhbmfjfhenaaFmt
namespace Rows

/-- THE TOLD CARD OF 'n025_34.FnFormatErrorIgnoresOffset'. -/
def fnFormatErrorIgnoresOffsetCard : Claim7 := { stood := { row := fnFormatErrorIgnoresOffsetRow, standIns := [], harness := (true, "6f3830cb7370dbba9fef10489ae0f8be8a60aa14f3d5c9c3be3ee170acc2858c"), looks := false }, told := true, goes := false }
def FnFormatErrorIgnoresOffsetToldSaid : Prop := Claim7.holds Tryf.pinned (.plain (OpenSpec.ofChange fnFormatErrorIgnoresOffsetSpec)) fnFormatErrorIgnoresOffsetCard
/-- ITS FALSE NEIGHBOUR. Refute it at one input. -/
def FnFormatErrorIgnoresOffsetToldWrongFalsely : Prop := Claim7.holds Tryf.pinned (.plain (OpenSpec.ofChange fnFormatErrorIgnoresOffsetWrong)) fnFormatErrorIgnoresOffsetCard
end Rows
end Go.Proofs.YtkplhbmfjfhenaaFmt
