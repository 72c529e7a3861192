/-
  No cell of these rows narrows 'for every input' (looked for: loops, veiled, ifaces, maps, wideKeys, modest, calm, conditions, laid).
  DERIVED. THE GIVEN ROWS OF THIS SEAT. 1 by the template 'for every input the law returns true; each argument reads behind the call as it read before'; 0 by the template 'total and deterministic' (their statements: YtmcnbmhggklfbaaFmtTotals.lean).
  GIVEN WITH THE SEED: the statements are not yours to turn. If you find one false, say at which input.
  Laid BY PROGRAM, IN A SANDBOX (cutbox-rows.mjs): the forced cells as the released guide's own fill.sh prints them over the translation d7db44502d9c2d90… (all of the seat's roots in one cut). By AI agents, Wed Nov 11 2026. No macro, syntax, notation, axiom, sorry.
-/
import Derived.Test.YtmcnbmhggklfbaaFmtChecked
import GoSem.Claim
import GoSem.ClaimJoined
import GoSem.ClaimMapViews
import Derived.JoinedTies
import Derived.KernelRfl
namespace Go.Proofs.YtmcnbmhggklfbaaFmt
/- THE CELL 'sum', in the pinned program and in every row, IS THE sha256 OF THE DUMP (.gsa) THAT YtmcnbmhggklfbaaFmtProg.lean LOADS. Nothing in Lean hashes anything: it is a label: what it is worth is what the hold of that sum in a sandbox is worth. -/
noncomputable def Tryf.pinned : Pinned := { name := "ytmcnbmhggklfbaafmt", sum := "d7db44502d9c2d90810707403c8efb9d8b62b2482ce4ca0c99eeefe4db158687", checked := Tryf.checked }
namespace Rows
def none {H : Type} : Left H := { results := [], args := [] }

/-- 'n025_38.FnDecorateTwiceIsOneJoinedName': WHATEVER THE INPUT: true; the input reads as it did. -/
def fnDecorateTwiceIsOneJoinedNameSpec : ChangeSpec := { name := "fnDecorateTwiceIsOneJoinedName", fn := fun _ => fun
  | [d1, d2, d3, d4, d5, d6, d7] => { results := [.lit (.bool true)], args := [d1, d2, d3, d4, d5, d6, d7] }
  | _ => none }
def fnDecorateTwiceIsOneJoinedNameRow : OpenClaim := { program := "ytmcnbmhggklfbaafmt", sum := "d7db44502d9c2d90810707403c8efb9d8b62b2482ce4ca0c99eeefe4db158687", func := "github.com/alecthomas/participle/v2/n025_38.FnDecorateTwiceIsOneJoinedName", spec := "fnDecorateTwiceIsOneJoinedName", stops := ["fmt.Sprintf, its operands' methods called"], inPlace := ["fmt.Sprintf"], unfollowed := true, recurses := true, apart := false }
/-- NO THEOREM (fmt's text is open here; it may be false): for the released tool's asking of the row's closed facts alone. THE STATEMENT IS 'FnDecorateTwiceIsOneJoinedNameToldSaid' (YtmcnbmhggklfbaaFmtCards.lean). -/
def FnDecorateTwiceIsOneJoinedNameFormAsk : Prop := fnDecorateTwiceIsOneJoinedNameRow.holds Tryf.pinned (OpenSpec.ofChange fnDecorateTwiceIsOneJoinedNameSpec)

/-- ITS FALSE NEIGHBOUR: 'it returns false'. Refute it at one input. -/
def fnDecorateTwiceIsOneJoinedNameWrong : ChangeSpec := { name := "fnDecorateTwiceIsOneJoinedName", fn := fun _ => fun
  | [d1, d2, d3, d4, d5, d6, d7] => { results := [.lit (.bool false)], args := [d1, d2, d3, d4, d5, d6, d7] }
  | _ => none }
def FnDecorateTwiceIsOneJoinedNameWrongFormAsk : Prop := fnDecorateTwiceIsOneJoinedNameRow.holds Tryf.pinned (OpenSpec.ofChange fnDecorateTwiceIsOneJoinedNameWrong)

end Rows
end Go.Proofs.YtmcnbmhggklfbaaFmt
