/-
  DERIVED. GIVEN WITH THE SEED: THE CARDS: each row of YtcjohdbojepmfaaFmtRows.lean that lists a variable, with what it lists TIED to the program's text (the seventh form; the later family's looks); each row that meets fmt, with fmt's text TOLD by the authors' own Lean function (tested against real Go, not proved from fmt's source: count such statements apart). THE CARD IS WHAT COUNTS. Prove the row's statement (the work); the ties are given (YtcjohdbojepmfaaFmtTie.lean); close each card by the builder's one call (the guide's Derived/Test/ToyasCard.lean, 'card_holds'). Laid BY PROGRAM, IN A SANDBOX (cutbox-door.mjs). By AI agents, Wed Nov 11 2026. No macro, syntax, notation, axiom, sorry.
-/
import Derived.Test.YtcjohdbojepmfaaFmtRows
import GoSem.ClaimSeven
namespace Go.Proofs.YtcjohdbojepmfaaFmt
namespace Rows

/-- THE TOLD CARD OF 'n025_19.FnUnwrapGivesInnerBack'. -/
def fnUnwrapGivesInnerBackCard : Claim7 := { stood := { row := fnUnwrapGivesInnerBackRow, standIns := [], harness := (true, "3d9f85dbc5f7bd7ed79319a6086a9419c5b223b71206c8d398a0f8723591d3ff"), looks := true }, told := true, goes := false }
def FnUnwrapGivesInnerBackToldSaid : Prop := Claim7.holds Tryf.pinned (.plain (OpenSpec.ofChange fnUnwrapGivesInnerBackSpec)) fnUnwrapGivesInnerBackCard
/-- ITS FALSE NEIGHBOUR. Refute it at one input. -/
def FnUnwrapGivesInnerBackToldWrongFalsely : Prop := Claim7.holds Tryf.pinned (.plain (OpenSpec.ofChange fnUnwrapGivesInnerBackWrong)) fnUnwrapGivesInnerBackCard

/-- THE TOLD CARD OF 'n025_19.FnErrorfTextFrame'. -/
def fnErrorfTextFrameCard : Claim7 := { stood := { row := fnErrorfTextFrameRow, standIns := [], harness := (true, "3d9f85dbc5f7bd7ed79319a6086a9419c5b223b71206c8d398a0f8723591d3ff"), looks := true }, told := true, goes := false }
def FnErrorfTextFrameToldSaid : Prop := Claim7.holds Tryf.pinned (.plain (OpenSpec.ofChange fnErrorfTextFrameSpec)) fnErrorfTextFrameCard
/-- ITS FALSE NEIGHBOUR. Refute it at one input. -/
def FnErrorfTextFrameToldWrongFalsely : Prop := Claim7.holds Tryf.pinned (.plain (OpenSpec.ofChange fnErrorfTextFrameWrong)) fnErrorfTextFrameCard
end Rows
end Go.Proofs.YtcjohdbojepmfaaFmt
