/-
  No cell of these rows narrows 'for every input' (looked for: loops, veiled, ifaces, maps, wideKeys, modest, calm, conditions, laid).
  DERIVED. THE GIVEN ROWS OF THIS SEAT. 5 by the template 'for every input the law returns true; each argument reads behind the call as it read before'; 0 by the template 'total and deterministic' (their statements: YtbnnccadnnfomaaTotals.lean).
  GIVEN WITH THE SEED: the statements are not yours to turn. If you find one false, say at which input.
  Laid BY PROGRAM, IN A SANDBOX (cutbox-rows.mjs): the forced cells as the released guide's own fill.sh prints them over the translation 90687df86cf960c1… (all of the seat's roots in one cut). By AI agents, Wed Nov 11 2026. No macro, syntax, notation, axiom, sorry.
-/
import Derived.Test.YtbnnccadnnfomaaChecked
import GoSem.Claim
import GoSem.ClaimJoined
import GoSem.ClaimMapViews
import Derived.JoinedTies
import Derived.KernelRfl
namespace Go.Proofs.Ytbnnccadnnfomaa
/- THE CELL 'sum', in the pinned program and in every row, IS THE sha256 OF THE DUMP (.gsa) THAT YtbnnccadnnfomaaProg.lean LOADS. Nothing in Lean hashes anything: it is a label: what it is worth is what the hold of that sum in a sandbox is worth. -/
noncomputable def Try.pinned : Pinned := { name := "ytbnnccadnnfomaa", sum := "90687df86cf960c1e6e420485fb4b5c2bf3fcc42ab1ed4dcc294d2e486f014c5", checked := Try.checked }
namespace Rows
def none {H : Type} : Left H := { results := [], args := [] }

/-- 'laws.FnAskFlags': WHATEVER THE INPUT: true; the input reads as it did. -/
def fnAskFlagsSpec : ChangeSpec := { name := "fnAskFlags", fn := fun _ => fun
  | [d1, d2] => { results := [.lit (.bool true)], args := [d1, d2] }
  | _ => none }
def fnAskFlagsRow : OpenClaim := { program := "ytbnnccadnnfomaa", sum := "90687df86cf960c1e6e420485fb4b5c2bf3fcc42ab1ed4dcc294d2e486f014c5", func := "loop.example/pub-g01450/laws.FnAskFlags", spec := "fnAskFlags", apart := false }
def FnAskFlagsSaid : Prop := fnAskFlagsRow.holds Try.pinned (OpenSpec.ofChange fnAskFlagsSpec)

/-- ITS FALSE NEIGHBOUR: 'it returns false'. Refute it at one input. -/
def fnAskFlagsWrong : ChangeSpec := { name := "fnAskFlags", fn := fun _ => fun
  | [d1, d2] => { results := [.lit (.bool false)], args := [d1, d2] }
  | _ => none }
def FnAskFlagsWrongFalsely : Prop := fnAskFlagsRow.holds Try.pinned (OpenSpec.ofChange fnAskFlagsWrong)

/-- 'laws.FnPointerContains': WHATEVER THE INPUT: true; the input reads as it did. -/
def fnPointerContainsSpec : ChangeSpec := { name := "fnPointerContains", fn := fun _ => fun
  | [d1, d2] => { results := [.lit (.bool true)], args := [d1, d2] }
  | _ => none }
def fnPointerContainsRow : OpenClaim := { program := "ytbnnccadnnfomaa", sum := "90687df86cf960c1e6e420485fb4b5c2bf3fcc42ab1ed4dcc294d2e486f014c5", func := "loop.example/pub-g01450/laws.FnPointerContains", spec := "fnPointerContains", apart := false }
def FnPointerContainsSaid : Prop := fnPointerContainsRow.holds Try.pinned (OpenSpec.ofChange fnPointerContainsSpec)

/-- ITS FALSE NEIGHBOUR: 'it returns false'. Refute it at one input. -/
def fnPointerContainsWrong : ChangeSpec := { name := "fnPointerContains", fn := fun _ => fun
  | [d1, d2] => { results := [.lit (.bool false)], args := [d1, d2] }
  | _ => none }
def FnPointerContainsWrongFalsely : Prop := fnPointerContainsRow.holds Try.pinned (OpenSpec.ofChange fnPointerContainsWrong)

/-- 'laws.FnPointerOrder': WHATEVER THE INPUT: true; the input reads as it did. -/
def fnPointerOrderSpec : ChangeSpec := { name := "fnPointerOrder", fn := fun _ => fun
  | [d1, d2, d3] => { results := [.lit (.bool true)], args := [d1, d2, d3] }
  | _ => none }
def fnPointerOrderRow : OpenClaim := { program := "ytbnnccadnnfomaa", sum := "90687df86cf960c1e6e420485fb4b5c2bf3fcc42ab1ed4dcc294d2e486f014c5", func := "loop.example/pub-g01450/laws.FnPointerOrder", spec := "fnPointerOrder", apart := false }
def FnPointerOrderSaid : Prop := fnPointerOrderRow.holds Try.pinned (OpenSpec.ofChange fnPointerOrderSpec)

/-- ITS FALSE NEIGHBOUR: 'it returns false'. Refute it at one input. -/
def fnPointerOrderWrong : ChangeSpec := { name := "fnPointerOrder", fn := fun _ => fun
  | [d1, d2, d3] => { results := [.lit (.bool false)], args := [d1, d2, d3] }
  | _ => none }
def FnPointerOrderWrongFalsely : Prop := fnPointerOrderRow.holds Try.pinned (OpenSpec.ofChange fnPointerOrderWrong)

/-- 'laws.FnWireSimpleNumber': WHATEVER THE INPUT: true; the input reads as it did. -/
def fnWireSimpleNumberSpec : ChangeSpec := { name := "fnWireSimpleNumber", fn := fun _ => fun
  | [d] => { results := [.lit (.bool true)], args := [d] }
  | _ => none }
def fnWireSimpleNumberRow : OpenClaim := { program := "ytbnnccadnnfomaa", sum := "90687df86cf960c1e6e420485fb4b5c2bf3fcc42ab1ed4dcc294d2e486f014c5", func := "loop.example/pub-g01450/laws.FnWireSimpleNumber", spec := "fnWireSimpleNumber", apart := false }
def FnWireSimpleNumberSaid : Prop := fnWireSimpleNumberRow.holds Try.pinned (OpenSpec.ofChange fnWireSimpleNumberSpec)

/-- ITS FALSE NEIGHBOUR: 'it returns false'. Refute it at one input. -/
def fnWireSimpleNumberWrong : ChangeSpec := { name := "fnWireSimpleNumber", fn := fun _ => fun
  | [d] => { results := [.lit (.bool false)], args := [d] }
  | _ => none }
def FnWireSimpleNumberWrongFalsely : Prop := fnWireSimpleNumberRow.holds Try.pinned (OpenSpec.ofChange fnWireSimpleNumberWrong)

/-- 'laws.FnSetFlags': WHATEVER THE INPUT: true; the input reads as it did. -/
def fnSetFlagsSpec : ChangeSpec := { name := "fnSetFlags", fn := fun _ => fun
  | [d1, d2] => { results := [.lit (.bool true)], args := [d1, d2] }
  | _ => none }
def fnSetFlagsRow : OpenClaim := { program := "ytbnnccadnnfomaa", sum := "90687df86cf960c1e6e420485fb4b5c2bf3fcc42ab1ed4dcc294d2e486f014c5", func := "loop.example/pub-g01450/laws.FnSetFlags", spec := "fnSetFlags", apart := false }
def FnSetFlagsSaid : Prop := fnSetFlagsRow.holds Try.pinned (OpenSpec.ofChange fnSetFlagsSpec)

/-- ITS FALSE NEIGHBOUR: 'it returns false'. Refute it at one input. -/
def fnSetFlagsWrong : ChangeSpec := { name := "fnSetFlags", fn := fun _ => fun
  | [d1, d2] => { results := [.lit (.bool false)], args := [d1, d2] }
  | _ => none }
def FnSetFlagsWrongFalsely : Prop := fnSetFlagsRow.holds Try.pinned (OpenSpec.ofChange fnSetFlagsWrong)

/- THE SECOND FORM. 'bulk': how many values and letters a reading holds, each counted each time it is reached (what is shared counts as often as it is met; a slice's spare places count too). A statement '..UptoSaid' is the law's where the arguments, and the package variables that the reading takes, are together of bulk at most 1048576: NARROWER than '..Said'. Prove '..Said' where nothing that the law and all that it calls make is longer than what came in: it says more and counts as full. Else prove '..UptoSaid'. A law counts once. -/
mutual
def uptoBulk {H : Type} : DataW H → Nat
  | .lit (.string bytes) => bytes.length + 1
  | .lit _ => 1
  | .nil => 1
  | .ptr d => uptoBulk d + 1
  | .slice elems spare => uptoBulkAll elems + uptoBulkAll spare + 1
  | .agg parts => uptoBulkAll parts + 1
  | .iface _ d => uptoBulk d + 1
  | .map entries => uptoBulkEntries entries + 1
  | .held _ => 1
def uptoBulkAll {H : Type} : List (DataW H) → Nat
  | [] => 0
  | d :: r => uptoBulk d + uptoBulkAll r
def uptoBulkEntries {H : Type} : List (Lit × DataW H) → Nat
  | [] => 0
  | x :: r => uptoBulkEntry x + uptoBulkEntries r
def uptoBulkEntry {H : Type} : Lit × DataW H → Nat
  | (.string bytes, d) => bytes.length + uptoBulk d + 1
  | (_, d) => uptoBulk d + 1
 end
def uptoSmall : (H : Type) → List (DataW H) → Bool := fun _ ds => decide (uptoBulkAll ds ≤ 1048576)
def OpenSpec.upto (s : _root_.Go.ChangeSpec) : _root_.Go.OpenSpec := { _root_.Go.OpenSpec.ofChange s with cond := some uptoSmall }

/-- 'laws.FnAskFlags', WHERE WHAT IT READS IS OF BULK AT MOST 1048576: true; the input reads as it did. -/
def fnAskFlagsUptoRow : OpenClaim := { program := "ytbnnccadnnfomaa", sum := "90687df86cf960c1e6e420485fb4b5c2bf3fcc42ab1ed4dcc294d2e486f014c5", func := "loop.example/pub-g01450/laws.FnAskFlags", spec := "fnAskFlags", apart := false, narrowed := true }
def FnAskFlagsUptoSaid : Prop := fnAskFlagsUptoRow.holds Try.pinned (OpenSpec.upto fnAskFlagsSpec)

/-- 'laws.FnPointerContains', WHERE WHAT IT READS IS OF BULK AT MOST 1048576: true; the input reads as it did. -/
def fnPointerContainsUptoRow : OpenClaim := { program := "ytbnnccadnnfomaa", sum := "90687df86cf960c1e6e420485fb4b5c2bf3fcc42ab1ed4dcc294d2e486f014c5", func := "loop.example/pub-g01450/laws.FnPointerContains", spec := "fnPointerContains", apart := false, narrowed := true }
def FnPointerContainsUptoSaid : Prop := fnPointerContainsUptoRow.holds Try.pinned (OpenSpec.upto fnPointerContainsSpec)

/-- 'laws.FnPointerOrder', WHERE WHAT IT READS IS OF BULK AT MOST 1048576: true; the input reads as it did. -/
def fnPointerOrderUptoRow : OpenClaim := { program := "ytbnnccadnnfomaa", sum := "90687df86cf960c1e6e420485fb4b5c2bf3fcc42ab1ed4dcc294d2e486f014c5", func := "loop.example/pub-g01450/laws.FnPointerOrder", spec := "fnPointerOrder", apart := false, narrowed := true }
def FnPointerOrderUptoSaid : Prop := fnPointerOrderUptoRow.holds Try.pinned (OpenSpec.upto fnPointerOrderSpec)

/-- 'laws.FnWireSimpleNumber', WHERE WHAT IT READS IS OF BULK AT MOST 1048576: true; the input reads as it did. -/
def fnWireSimpleNumberUptoRow : OpenClaim := { program := "ytbnnccadnnfomaa", sum := "90687df86cf960c1e6e420485fb4b5c2bf3fcc42ab1ed4dcc294d2e486f014c5", func := "loop.example/pub-g01450/laws.FnWireSimpleNumber", spec := "fnWireSimpleNumber", apart := false, narrowed := true }
def FnWireSimpleNumberUptoSaid : Prop := fnWireSimpleNumberUptoRow.holds Try.pinned (OpenSpec.upto fnWireSimpleNumberSpec)

/-- 'laws.FnSetFlags', WHERE WHAT IT READS IS OF BULK AT MOST 1048576: true; the input reads as it did. -/
def fnSetFlagsUptoRow : OpenClaim := { program := "ytbnnccadnnfomaa", sum := "90687df86cf960c1e6e420485fb4b5c2bf3fcc42ab1ed4dcc294d2e486f014c5", func := "loop.example/pub-g01450/laws.FnSetFlags", spec := "fnSetFlags", apart := false, narrowed := true }
def FnSetFlagsUptoSaid : Prop := fnSetFlagsUptoRow.holds Try.pinned (OpenSpec.upto fnSetFlagsSpec)

end Rows
end Go.Proofs.Ytbnnccadnnfomaa
