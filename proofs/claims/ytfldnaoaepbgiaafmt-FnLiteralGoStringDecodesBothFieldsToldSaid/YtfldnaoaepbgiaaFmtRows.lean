/-
  No cell of these rows narrows 'for every input' (looked for: loops, veiled, ifaces, maps, wideKeys, modest, calm, conditions, laid).
  DERIVED. THE GIVEN ROWS OF THIS SEAT. 1 by the template 'for every input the law returns true; each argument reads behind the call as it read before'; 0 by the template 'total and deterministic' (their statements: YtfldnaoaepbgiaaFmtTotals.lean).
  GIVEN WITH THE SEED: the statements are not yours to turn. If you find one false, say at which input.
  Laid BY PROGRAM, IN A SANDBOX (cutbox-rows.mjs): the forced cells as the released guide's own fill.sh prints them over the translation e8ac205313d4e3c0… (all of the seat's roots in one cut). By AI agents, Wed Nov 11 2026. No macro, syntax, notation, axiom, sorry.
-/
import Derived.Test.YtfldnaoaepbgiaaFmtChecked
import GoSem.Claim
import GoSem.ClaimJoined
import GoSem.ClaimMapViews
import Derived.JoinedTies
import Derived.KernelRfl
namespace Go.Proofs.YtfldnaoaepbgiaaFmt
/- THE CELL 'sum', in the pinned program and in every row, IS THE sha256 OF THE DUMP (.gsa) THAT YtfldnaoaepbgiaaFmtProg.lean LOADS. Nothing in Lean hashes anything: it is a label: what it is worth is what the hold of that sum in a sandbox is worth. -/
noncomputable def Tryf.pinned : Pinned := { name := "ytfldnaoaepbgiaafmt", sum := "e8ac205313d4e3c0960092c519323b1ac7593f2c4305eec00b65e9d2baa12723", checked := Tryf.checked }
namespace Rows
def none {H : Type} : Left H := { results := [], args := [] }

/-- 'n025_45.FnLiteralGoStringDecodesBothFields': WHATEVER THE INPUT: true; the input reads as it did. -/
def fnLiteralGoStringDecodesBothFieldsSpec : ChangeSpec := { name := "fnLiteralGoStringDecodesBothFields", fn := fun _ => fun
  | [d1, d2, d3] => { results := [.lit (.bool true)], args := [d1, d2, d3] }
  | _ => none }
def fnLiteralGoStringDecodesBothFieldsRow : OpenClaim := { program := "ytfldnaoaepbgiaafmt", sum := "e8ac205313d4e3c0960092c519323b1ac7593f2c4305eec00b65e9d2baa12723", func := "github.com/alecthomas/participle/v2/n025_45.FnLiteralGoStringDecodesBothFields", spec := "fnLiteralGoStringDecodesBothFields", stops := ["fmt.Sprintf"], inPlace := ["fmt.Sprintf"], apart := false }
/-- NO THEOREM (fmt's text is open here; it may be false): for the released tool's asking of the row's closed facts alone. THE STATEMENT IS 'FnLiteralGoStringDecodesBothFieldsToldSaid' (YtfldnaoaepbgiaaFmtCards.lean). -/
def FnLiteralGoStringDecodesBothFieldsFormAsk : Prop := fnLiteralGoStringDecodesBothFieldsRow.holds Tryf.pinned (OpenSpec.ofChange fnLiteralGoStringDecodesBothFieldsSpec)

/-- ITS FALSE NEIGHBOUR: 'it returns false'. Refute it at one input. -/
def fnLiteralGoStringDecodesBothFieldsWrong : ChangeSpec := { name := "fnLiteralGoStringDecodesBothFields", fn := fun _ => fun
  | [d1, d2, d3] => { results := [.lit (.bool false)], args := [d1, d2, d3] }
  | _ => none }
def FnLiteralGoStringDecodesBothFieldsWrongFormAsk : Prop := fnLiteralGoStringDecodesBothFieldsRow.holds Tryf.pinned (OpenSpec.ofChange fnLiteralGoStringDecodesBothFieldsWrong)

end Rows
end Go.Proofs.YtfldnaoaepbgiaaFmt
