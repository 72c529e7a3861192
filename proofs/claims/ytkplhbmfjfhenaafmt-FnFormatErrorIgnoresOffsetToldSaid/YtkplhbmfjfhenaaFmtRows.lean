/-
  No cell of these rows narrows 'for every input' (looked for: loops, veiled, ifaces, maps, wideKeys, modest, calm, conditions, laid).
  DERIVED. THE GIVEN ROWS OF THIS SEAT. 1 by the template 'for every input the law returns true; each argument reads behind the call as it read before'; 0 by the template 'total and deterministic' (their statements: YtkplhbmfjfhenaaFmtTotals.lean).
  GIVEN WITH THE SEED: the statements are not yours to turn. If you find one false, say at which input.
  Laid BY PROGRAM, IN A SANDBOX (cutbox-rows.mjs): the forced cells as the released guide's own fill.sh prints them over the translation dd71943cc47e8747… (all of the seat's roots in one cut). By AI agents, Wed Nov 11 2026. No macro, syntax, notation, axiom, sorry.
-/
import Derived.Test.YtkplhbmfjfhenaaFmtChecked
import GoSem.Claim
import GoSem.ClaimJoined
import GoSem.ClaimMapViews
import Derived.JoinedTies
import Derived.KernelRfl
namespace Go.Proofs.YtkplhbmfjfhenaaFmt
/- THE CELL 'sum', in the pinned program and in every row, IS THE sha256 OF THE DUMP (.gsa) THAT YtkplhbmfjfhenaaFmtProg.lean LOADS. Nothing in Lean hashes anything: it is a label: what it is worth is what the hold of that sum in a sandbox is worth. -/
noncomputable def Tryf.pinned : Pinned := { name := "ytkplhbmfjfhenaafmt", sum := "dd71943cc47e8747b9c43d5a4420195fbdce2d6b4b6f812deb2d54c253d3fc6c", checked := Tryf.checked }
namespace Rows
def none {H : Type} : Left H := { results := [], args := [] }

/-- 'n025_34.FnFormatErrorIgnoresOffset': WHATEVER THE INPUT: true; the input reads as it did. -/
def fnFormatErrorIgnoresOffsetSpec : ChangeSpec := { name := "fnFormatErrorIgnoresOffset", fn := fun _ => fun
  | [d1, d2, d3, d4, d5, d6] => { results := [.lit (.bool true)], args := [d1, d2, d3, d4, d5, d6] }
  | _ => none }
def fnFormatErrorIgnoresOffsetRow : OpenClaim := { program := "ytkplhbmfjfhenaafmt", sum := "dd71943cc47e8747b9c43d5a4420195fbdce2d6b4b6f812deb2d54c253d3fc6c", func := "github.com/alecthomas/participle/v2/n025_34.FnFormatErrorIgnoresOffset", spec := "fnFormatErrorIgnoresOffset", stops := ["fmt.Sprintf"], inPlace := ["fmt.Sprintf"], unfollowed := true, recurses := true, apart := false }
/-- NO THEOREM (fmt's text is open here; it may be false): for the released tool's asking of the row's closed facts alone. THE STATEMENT IS 'FnFormatErrorIgnoresOffsetToldSaid' (YtkplhbmfjfhenaaFmtCards.lean). -/
def FnFormatErrorIgnoresOffsetFormAsk : Prop := fnFormatErrorIgnoresOffsetRow.holds Tryf.pinned (OpenSpec.ofChange fnFormatErrorIgnoresOffsetSpec)

/-- ITS FALSE NEIGHBOUR: 'it returns false'. Refute it at one input. -/
def fnFormatErrorIgnoresOffsetWrong : ChangeSpec := { name := "fnFormatErrorIgnoresOffset", fn := fun _ => fun
  | [d1, d2, d3, d4, d5, d6] => { results := [.lit (.bool false)], args := [d1, d2, d3, d4, d5, d6] }
  | _ => none }
def FnFormatErrorIgnoresOffsetWrongFormAsk : Prop := fnFormatErrorIgnoresOffsetRow.holds Tryf.pinned (OpenSpec.ofChange fnFormatErrorIgnoresOffsetWrong)

end Rows
end Go.Proofs.YtkplhbmfjfhenaaFmt
