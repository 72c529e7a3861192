/-
  No cell of these rows narrows 'for every input' (looked for: loops, veiled, ifaces, maps, wideKeys, modest, calm, conditions, laid).
  DERIVED. THE GIVEN ROWS OF THIS SEAT. 2 by the template 'for every input the law returns true; each argument reads behind the call as it read before'; 0 by the template 'total and deterministic' (their statements: YtcjohdbojepmfaaFmtTotals.lean).
  GIVEN WITH THE SEED: the statements are not yours to turn. If you find one false, say at which input.
  Laid BY PROGRAM, IN A SANDBOX (cutbox-rows.mjs): the forced cells as the released guide's own fill.sh prints them over the translation e6dfa7575b7e5175… (all of the seat's roots in one cut). By AI agents, Wed Nov 11 2026. No macro, syntax, notation, axiom, sorry.
-/
import Derived.Test.YtcjohdbojepmfaaFmtChecked
import GoSem.Claim
import GoSem.ClaimJoined
import GoSem.ClaimMapViews
import Derived.JoinedTies
import Derived.KernelRfl
namespace Go.Proofs.YtcjohdbojepmfaaFmt
/- THE CELL 'sum', in the pinned program and in every row, IS THE sha256 OF THE DUMP (.gsa) THAT YtcjohdbojepmfaaFmtProg.lean LOADS. Nothing in Lean hashes anything: it is a label: what it is worth is what the hold of that sum in a sandbox is worth. -/
noncomputable def Tryf.pinned : Pinned := { name := "ytcjohdbojepmfaafmt", sum := "e6dfa7575b7e51756b6f341aed649e0ec146eef7a5c922b68657555add044573", checked := Tryf.checked }
namespace Rows
def none {H : Type} : Left H := { results := [], args := [] }

/-- 'n025_19.FnUnwrapGivesInnerBack': WHATEVER THE INPUT: true; the input reads as it did. -/
def fnUnwrapGivesInnerBackSpec : ChangeSpec := { name := "fnUnwrapGivesInnerBack", fn := fun _ => fun
  | [d1, d2, d3, d4, d5, d6, d7, d8, d9, d10] => { results := [.lit (.bool true)], args := [d1, d2, d3, d4, d5, d6, d7, d8, d9, d10] }
  | _ => none }
def fnUnwrapGivesInnerBackRow : OpenClaim := { program := "ytcjohdbojepmfaafmt", sum := "e6dfa7575b7e51756b6f341aed649e0ec146eef7a5c922b68657555add044573", func := "github.com/alecthomas/participle/v2/n025_19.FnUnwrapGivesInnerBack", spec := "fnUnwrapGivesInnerBack", stops := ["fmt.Sprintf, its operands' methods called"], inPlace := ["fmt.Sprintf"], unfollowed := true, recurses := true, apart := false }
/-- NO THEOREM (fmt's text is open here; it may be false): for the released tool's asking of the row's closed facts alone. THE STATEMENT IS 'FnUnwrapGivesInnerBackToldSaid' (YtcjohdbojepmfaaFmtCards.lean). -/
def FnUnwrapGivesInnerBackFormAsk : Prop := fnUnwrapGivesInnerBackRow.holds Tryf.pinned (OpenSpec.ofChange fnUnwrapGivesInnerBackSpec)

/-- ITS FALSE NEIGHBOUR: 'it returns false'. Refute it at one input. -/
def fnUnwrapGivesInnerBackWrong : ChangeSpec := { name := "fnUnwrapGivesInnerBack", fn := fun _ => fun
  | [d1, d2, d3, d4, d5, d6, d7, d8, d9, d10] => { results := [.lit (.bool false)], args := [d1, d2, d3, d4, d5, d6, d7, d8, d9, d10] }
  | _ => none }
def FnUnwrapGivesInnerBackWrongFormAsk : Prop := fnUnwrapGivesInnerBackRow.holds Tryf.pinned (OpenSpec.ofChange fnUnwrapGivesInnerBackWrong)

/-- 'n025_19.FnErrorfTextFrame': WHATEVER THE INPUT: true; the input reads as it did. -/
def fnErrorfTextFrameSpec : ChangeSpec := { name := "fnErrorfTextFrame", fn := fun _ => fun
  | [d1, d2, d3, d4, d5] => { results := [.lit (.bool true)], args := [d1, d2, d3, d4, d5] }
  | _ => none }
def fnErrorfTextFrameRow : OpenClaim := { program := "ytcjohdbojepmfaafmt", sum := "e6dfa7575b7e51756b6f341aed649e0ec146eef7a5c922b68657555add044573", func := "github.com/alecthomas/participle/v2/n025_19.FnErrorfTextFrame", spec := "fnErrorfTextFrame", stops := ["fmt.Sprintf, its operands' methods called"], inPlace := ["fmt.Sprintf"], unfollowed := true, recurses := true, apart := false }
/-- NO THEOREM (fmt's text is open here; it may be false): for the released tool's asking of the row's closed facts alone. THE STATEMENT IS 'FnErrorfTextFrameToldSaid' (YtcjohdbojepmfaaFmtCards.lean). -/
def FnErrorfTextFrameFormAsk : Prop := fnErrorfTextFrameRow.holds Tryf.pinned (OpenSpec.ofChange fnErrorfTextFrameSpec)

/-- ITS FALSE NEIGHBOUR: 'it returns false'. Refute it at one input. -/
def fnErrorfTextFrameWrong : ChangeSpec := { name := "fnErrorfTextFrame", fn := fun _ => fun
  | [d1, d2, d3, d4, d5] => { results := [.lit (.bool false)], args := [d1, d2, d3, d4, d5] }
  | _ => none }
def FnErrorfTextFrameWrongFormAsk : Prop := fnErrorfTextFrameRow.holds Tryf.pinned (OpenSpec.ofChange fnErrorfTextFrameWrong)

end Rows
end Go.Proofs.YtcjohdbojepmfaaFmt
