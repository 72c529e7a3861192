/-
  No cell of these rows narrows 'for every input' (looked for: loops, veiled, ifaces, maps, wideKeys, modest, calm, conditions, laid).
  DERIVED. THE GIVEN ROWS OF THIS SEAT. 5 by the template 'for every input the law returns true; each argument reads behind the call as it read before'; 0 by the template 'total and deterministic' (their statements: YtnmpohfhajmdlaaTotals.lean).
  GIVEN WITH THE SEED: the statements are not yours to turn. If you find one false, say at which input.
  Laid BY PROGRAM, IN A SANDBOX (cutbox-rows.mjs): the forced cells as the released guide's own fill.sh prints them over the translation cd7c9771a7cf24b6… (all of the seat's roots in one cut). By AI agents, Wed Nov 11 2026. No macro, syntax, notation, axiom, sorry.
-/
import Derived.Test.YtnmpohfhajmdlaaChecked
import GoSem.Claim
import GoSem.ClaimJoined
import GoSem.ClaimMapViews
import Derived.JoinedTies
import Derived.KernelRfl
namespace Go.Proofs.Ytnmpohfhajmdlaa
/- THE CELL 'sum', in the pinned program and in every row, IS THE sha256 OF THE DUMP (.gsa) THAT YtnmpohfhajmdlaaProg.lean LOADS. Nothing in Lean hashes anything: it is a label: what it is worth is what the hold of that sum in a sandbox is worth. -/
noncomputable def Try.pinned : Pinned := { name := "ytnmpohfhajmdlaa", sum := "cd7c9771a7cf24b6564de3aef7fba57c287849c5147255dc7e167b181537d21a", checked := Try.checked }
namespace Rows
def none {H : Type} : Left H := { results := [], args := [] }

/-- 'n025_2.FnMaxIntMonotone': WHATEVER THE INPUT: true; the input reads as it did. -/
def fnMaxIntMonotoneSpec : ChangeSpec := { name := "fnMaxIntMonotone", fn := fun _ => fun
  | [d1, d2, d3] => { results := [.lit (.bool true)], args := [d1, d2, d3] }
  | _ => none }
def fnMaxIntMonotoneRow : OpenClaim := { program := "ytnmpohfhajmdlaa", sum := "cd7c9771a7cf24b6564de3aef7fba57c287849c5147255dc7e167b181537d21a", func := "github.com/alecthomas/participle/v2/n025_2.FnMaxIntMonotone", spec := "fnMaxIntMonotone", apart := false }
def FnMaxIntMonotoneSaid : Prop := fnMaxIntMonotoneRow.holds Try.pinned (OpenSpec.ofChange fnMaxIntMonotoneSpec)

/-- ITS FALSE NEIGHBOUR: 'it returns false'. Refute it at one input. -/
def fnMaxIntMonotoneWrong : ChangeSpec := { name := "fnMaxIntMonotone", fn := fun _ => fun
  | [d1, d2, d3] => { results := [.lit (.bool false)], args := [d1, d2, d3] }
  | _ => none }
def FnMaxIntMonotoneWrongFalsely : Prop := fnMaxIntMonotoneRow.holds Try.pinned (OpenSpec.ofChange fnMaxIntMonotoneWrong)

/-- 'n025_2.FnGroupMatchModeStringInjective': WHATEVER THE INPUT: true; the input reads as it did. -/
def fnGroupMatchModeStringInjectiveSpec : ChangeSpec := { name := "fnGroupMatchModeStringInjective", fn := fun _ => fun
  | [d1, d2] => { results := [.lit (.bool true)], args := [d1, d2] }
  | _ => none }
def fnGroupMatchModeStringInjectiveRow : OpenClaim := { program := "ytnmpohfhajmdlaa", sum := "cd7c9771a7cf24b6564de3aef7fba57c287849c5147255dc7e167b181537d21a", func := "github.com/alecthomas/participle/v2/n025_2.FnGroupMatchModeStringInjective", spec := "fnGroupMatchModeStringInjective", apart := false }
def FnGroupMatchModeStringInjectiveSaid : Prop := fnGroupMatchModeStringInjectiveRow.holds Try.pinned (OpenSpec.ofChange fnGroupMatchModeStringInjectiveSpec)

/-- ITS FALSE NEIGHBOUR: 'it returns false'. Refute it at one input. -/
def fnGroupMatchModeStringInjectiveWrong : ChangeSpec := { name := "fnGroupMatchModeStringInjective", fn := fun _ => fun
  | [d1, d2] => { results := [.lit (.bool false)], args := [d1, d2] }
  | _ => none }
def FnGroupMatchModeStringInjectiveWrongFalsely : Prop := fnGroupMatchModeStringInjectiveRow.holds Try.pinned (OpenSpec.ofChange fnGroupMatchModeStringInjectiveWrong)

/-- 'n025_2.FnMaxIntIsLeastUpperBound': WHATEVER THE INPUT: true; the input reads as it did. -/
def fnMaxIntIsLeastUpperBoundSpec : ChangeSpec := { name := "fnMaxIntIsLeastUpperBound", fn := fun _ => fun
  | [d1, d2] => { results := [.lit (.bool true)], args := [d1, d2] }
  | _ => none }
def fnMaxIntIsLeastUpperBoundRow : OpenClaim := { program := "ytnmpohfhajmdlaa", sum := "cd7c9771a7cf24b6564de3aef7fba57c287849c5147255dc7e167b181537d21a", func := "github.com/alecthomas/participle/v2/n025_2.FnMaxIntIsLeastUpperBound", spec := "fnMaxIntIsLeastUpperBound", apart := false }
def FnMaxIntIsLeastUpperBoundSaid : Prop := fnMaxIntIsLeastUpperBoundRow.holds Try.pinned (OpenSpec.ofChange fnMaxIntIsLeastUpperBoundSpec)

/-- ITS FALSE NEIGHBOUR: 'it returns false'. Refute it at one input. -/
def fnMaxIntIsLeastUpperBoundWrong : ChangeSpec := { name := "fnMaxIntIsLeastUpperBound", fn := fun _ => fun
  | [d1, d2] => { results := [.lit (.bool false)], args := [d1, d2] }
  | _ => none }
def FnMaxIntIsLeastUpperBoundWrongFalsely : Prop := fnMaxIntIsLeastUpperBoundRow.holds Try.pinned (OpenSpec.ofChange fnMaxIntIsLeastUpperBoundWrong)

/-- 'n025_2.FnMaxIntCommutativeAssociativeIdempotent': WHATEVER THE INPUT: true; the input reads as it did. -/
def fnMaxIntCommutativeAssociativeIdempotentSpec : ChangeSpec := { name := "fnMaxIntCommutativeAssociativeIdempotent", fn := fun _ => fun
  | [d1, d2, d3] => { results := [.lit (.bool true)], args := [d1, d2, d3] }
  | _ => none }
def fnMaxIntCommutativeAssociativeIdempotentRow : OpenClaim := { program := "ytnmpohfhajmdlaa", sum := "cd7c9771a7cf24b6564de3aef7fba57c287849c5147255dc7e167b181537d21a", func := "github.com/alecthomas/participle/v2/n025_2.FnMaxIntCommutativeAssociativeIdempotent", spec := "fnMaxIntCommutativeAssociativeIdempotent", apart := false }
def FnMaxIntCommutativeAssociativeIdempotentSaid : Prop := fnMaxIntCommutativeAssociativeIdempotentRow.holds Try.pinned (OpenSpec.ofChange fnMaxIntCommutativeAssociativeIdempotentSpec)

/-- ITS FALSE NEIGHBOUR: 'it returns false'. Refute it at one input. -/
def fnMaxIntCommutativeAssociativeIdempotentWrong : ChangeSpec := { name := "fnMaxIntCommutativeAssociativeIdempotent", fn := fun _ => fun
  | [d1, d2, d3] => { results := [.lit (.bool false)], args := [d1, d2, d3] }
  | _ => none }
def FnMaxIntCommutativeAssociativeIdempotentWrongFalsely : Prop := fnMaxIntCommutativeAssociativeIdempotentRow.holds Try.pinned (OpenSpec.ofChange fnMaxIntCommutativeAssociativeIdempotentWrong)

/-- 'n025_2.FnGroupMatchModeStringShape': WHATEVER THE INPUT: true; the input reads as it did. -/
def fnGroupMatchModeStringShapeSpec : ChangeSpec := { name := "fnGroupMatchModeStringShape", fn := fun _ => fun
  | [d] => { results := [.lit (.bool true)], args := [d] }
  | _ => none }
def fnGroupMatchModeStringShapeRow : OpenClaim := { program := "ytnmpohfhajmdlaa", sum := "cd7c9771a7cf24b6564de3aef7fba57c287849c5147255dc7e167b181537d21a", func := "github.com/alecthomas/participle/v2/n025_2.FnGroupMatchModeStringShape", spec := "fnGroupMatchModeStringShape", apart := false }
def FnGroupMatchModeStringShapeSaid : Prop := fnGroupMatchModeStringShapeRow.holds Try.pinned (OpenSpec.ofChange fnGroupMatchModeStringShapeSpec)

/-- ITS FALSE NEIGHBOUR: 'it returns false'. Refute it at one input. -/
def fnGroupMatchModeStringShapeWrong : ChangeSpec := { name := "fnGroupMatchModeStringShape", fn := fun _ => fun
  | [d] => { results := [.lit (.bool false)], args := [d] }
  | _ => none }
def FnGroupMatchModeStringShapeWrongFalsely : Prop := fnGroupMatchModeStringShapeRow.holds Try.pinned (OpenSpec.ofChange fnGroupMatchModeStringShapeWrong)

/- THE SECOND FORM. 'bulk': how many values and letters a reading holds, each counted each time it is reached (what is shared counts as often as it is met; a slice's spare places count too). A statement '..UptoSaid' is the law's where the arguments, and the package variables that the reading takes, are together of bulk at most 1048576: NARROWER than '..Said'. Prove '..Said' where nothing that the law and all that it calls make is longer than what came in: it says more and counts as full. Else prove '..UptoSaid'. A law counts once. -/
mutual
def uptoBulk {H : Type} : DataW H → Nat
  | .lit (.string bytes) => bytes.length + 1
  | .lit _ => 1
  | .nil => 1
  | .ptr d => uptoBulk d + 1
  | .slice elems spare => uptoBulkAll elems + uptoBulkAll spare + 1
  | .agg parts => uptoBulkAll parts + 1
  | .iface _ d => uptoBulk d + 1
  | .map entries => uptoBulkEntries entries + 1
  | .held _ => 1
def uptoBulkAll {H : Type} : List (DataW H) → Nat
  | [] => 0
  | d :: r => uptoBulk d + uptoBulkAll r
def uptoBulkEntries {H : Type} : List (Lit × DataW H) → Nat
  | [] => 0
  | x :: r => uptoBulkEntry x + uptoBulkEntries r
def uptoBulkEntry {H : Type} : Lit × DataW H → Nat
  | (.string bytes, d) => bytes.length + uptoBulk d + 1
  | (_, d) => uptoBulk d + 1
 end
def uptoSmall : (H : Type) → List (DataW H) → Bool := fun _ ds => decide (uptoBulkAll ds ≤ 1048576)
def OpenSpec.upto (s : _root_.Go.ChangeSpec) : _root_.Go.OpenSpec := { _root_.Go.OpenSpec.ofChange s with cond := some uptoSmall }

/-- 'n025_2.FnMaxIntMonotone', WHERE WHAT IT READS IS OF BULK AT MOST 1048576: true; the input reads as it did. -/
def fnMaxIntMonotoneUptoRow : OpenClaim := { program := "ytnmpohfhajmdlaa", sum := "cd7c9771a7cf24b6564de3aef7fba57c287849c5147255dc7e167b181537d21a", func := "github.com/alecthomas/participle/v2/n025_2.FnMaxIntMonotone", spec := "fnMaxIntMonotone", apart := false, narrowed := true }
def FnMaxIntMonotoneUptoSaid : Prop := fnMaxIntMonotoneUptoRow.holds Try.pinned (OpenSpec.upto fnMaxIntMonotoneSpec)

/-- 'n025_2.FnGroupMatchModeStringInjective', WHERE WHAT IT READS IS OF BULK AT MOST 1048576: true; the input reads as it did. -/
def fnGroupMatchModeStringInjectiveUptoRow : OpenClaim := { program := "ytnmpohfhajmdlaa", sum := "cd7c9771a7cf24b6564de3aef7fba57c287849c5147255dc7e167b181537d21a", func := "github.com/alecthomas/participle/v2/n025_2.FnGroupMatchModeStringInjective", spec := "fnGroupMatchModeStringInjective", apart := false, narrowed := true }
def FnGroupMatchModeStringInjectiveUptoSaid : Prop := fnGroupMatchModeStringInjectiveUptoRow.holds Try.pinned (OpenSpec.upto fnGroupMatchModeStringInjectiveSpec)

/-- 'n025_2.FnMaxIntIsLeastUpperBound', WHERE WHAT IT READS IS OF BULK AT MOST 1048576: true; the input reads as it did. -/
def fnMaxIntIsLeastUpperBoundUptoRow : OpenClaim := { program := "ytnmpohfhajmdlaa", sum := "cd7c9771a7cf24b6564de3aef7fba57c287849c5147255dc7e167b181537d21a", func := "github.com/alecthomas/participle/v2/n025_2.FnMaxIntIsLeastUpperBound", spec := "fnMaxIntIsLeastUpperBound", apart := false, narrowed := true }
def FnMaxIntIsLeastUpperBoundUptoSaid : Prop := fnMaxIntIsLeastUpperBoundUptoRow.holds Try.pinned (OpenSpec.upto fnMaxIntIsLeastUpperBoundSpec)

/-- 'n025_2.FnMaxIntCommutativeAssociativeIdempotent', WHERE WHAT IT READS IS OF BULK AT MOST 1048576: true; the input reads as it did. -/
def fnMaxIntCommutativeAssociativeIdempotentUptoRow : OpenClaim := { program := "ytnmpohfhajmdlaa", sum := "cd7c9771a7cf24b6564de3aef7fba57c287849c5147255dc7e167b181537d21a", func := "github.com/alecthomas/participle/v2/n025_2.FnMaxIntCommutativeAssociativeIdempotent", spec := "fnMaxIntCommutativeAssociativeIdempotent", apart := false, narrowed := true }
def FnMaxIntCommutativeAssociativeIdempotentUptoSaid : Prop := fnMaxIntCommutativeAssociativeIdempotentUptoRow.holds Try.pinned (OpenSpec.upto fnMaxIntCommutativeAssociativeIdempotentSpec)

/-- 'n025_2.FnGroupMatchModeStringShape', WHERE WHAT IT READS IS OF BULK AT MOST 1048576: true; the input reads as it did. -/
def fnGroupMatchModeStringShapeUptoRow : OpenClaim := { program := "ytnmpohfhajmdlaa", sum := "cd7c9771a7cf24b6564de3aef7fba57c287849c5147255dc7e167b181537d21a", func := "github.com/alecthomas/participle/v2/n025_2.FnGroupMatchModeStringShape", spec := "fnGroupMatchModeStringShape", apart := false, narrowed := true }
def FnGroupMatchModeStringShapeUptoSaid : Prop := fnGroupMatchModeStringShapeUptoRow.holds Try.pinned (OpenSpec.upto fnGroupMatchModeStringShapeSpec)

end Rows
end Go.Proofs.Ytnmpohfhajmdlaa
