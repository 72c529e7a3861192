/-
  DERIVED. GIVEN WITH THE SEED: THE CARDS: each row of YtmcnbmhggklfbaaFmtRows.lean that lists a variable, with what it lists TIED to the program's text (the seventh form; the later family's looks); each row that meets fmt, with fmt's text TOLD by the authors' own Lean function (tested against real Go, not proved from fmt's source: count such statements apart). THE CARD IS WHAT COUNTS. Prove the row's statement (the work); the ties are given (YtmcnbmhggklfbaaFmtTie.lean); close each card by the builder's one call (the guide's Derived/Test/ToyasCard.lean, 'card_holds'). Laid BY PROGRAM, IN A SANDBOX (cutbox-door.mjs). By AI agents, Wed Nov 11 2026. No macro, syntax, notation, axiom, sorry.
-/
import Derived.Test.YtmcnbmhggklfbaaFmtRows
import GoSem.ClaimSeven
namespace Go.Proofs.YtmcnbmhggklfbaaFmt
namespace Rows

/-- THE TOLD CARD OF 'n025_38.FnDecorateTwiceIsOneJoinedName'. -/
def fnDecorateTwiceIsOneJoinedNameCard : Claim7 := { stood := { row := fnDecorateTwiceIsOneJoinedNameRow, standIns := [], harness := (true, "4f5c7307a9e65c405676e17a7c9a974f524112227b25822efa524f450b290569"), looks := true }, told := true, goes := false }
def FnDecorateTwiceIsOneJoinedNameToldSaid : Prop := Claim7.holds Tryf.pinned (.plain (OpenSpec.ofChange fnDecorateTwiceIsOneJoinedNameSpec)) fnDecorateTwiceIsOneJoinedNameCard
/-- ITS FALSE NEIGHBOUR. Refute it at one input. -/
def FnDecorateTwiceIsOneJoinedNameToldWrongFalsely : Prop := Claim7.holds Tryf.pinned (.plain (OpenSpec.ofChange fnDecorateTwiceIsOneJoinedNameWrong)) fnDecorateTwiceIsOneJoinedNameCard
end Rows
end Go.Proofs.YtmcnbmhggklfbaaFmt
