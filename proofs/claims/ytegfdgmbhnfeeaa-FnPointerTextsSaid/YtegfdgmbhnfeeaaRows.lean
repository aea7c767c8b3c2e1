/-
  No cell of these rows narrows 'for every input' (looked for: loops, veiled, ifaces, maps, wideKeys, modest, calm, conditions, laid).
  DERIVED. THE GIVEN ROWS OF THIS SEAT. 5 by the template 'for every input the law returns true; each argument reads behind the call as it read before'; 0 by the template 'total and deterministic' (their statements: YtegfdgmbhnfeeaaTotals.lean).
  GIVEN WITH THE SEED: the statements are not yours to turn. If you find one false, say at which input.
  Laid BY PROGRAM, IN A SANDBOX (cutbox-rows.mjs): the forced cells as the released guide's own fill.sh prints them over the translation 4f603d5e7369d29d… (all of the seat's roots in one cut). By AI agents, Wed Nov 11 2026. No macro, syntax, notation, axiom, sorry.
-/
import Derived.Test.YtegfdgmbhnfeeaaChecked
import GoSem.Claim
import GoSem.ClaimJoined
import GoSem.ClaimMapViews
import Derived.JoinedTies
import Derived.KernelRfl
namespace Go.Proofs.Ytegfdgmbhnfeeaa
/- THE CELL 'sum', in the pinned program and in every row, IS THE sha256 OF THE DUMP (.gsa) THAT YtegfdgmbhnfeeaaProg.lean LOADS. Nothing in Lean hashes anything: it is a label: what it is worth is what the hold of that sum in a sandbox is worth. -/
noncomputable def Try.pinned : Pinned := { name := "ytegfdgmbhnfeeaa", sum := "4f603d5e7369d29d57a5af1cbe3e697570eb0bc89c244ca056c99c3fa621c4a8", checked := Try.checked }
namespace Rows
def none {H : Type} : Left H := { results := [], args := [] }

/-- 'laws.FnOldEscapeByte': WHATEVER THE INPUT: true; the input reads as it did. -/
def fnOldEscapeByteSpec : ChangeSpec := { name := "fnOldEscapeByte", fn := fun _ => fun
  | [d] => { results := [.lit (.bool true)], args := [d] }
  | _ => none }
def fnOldEscapeByteRow : OpenClaim := { program := "ytegfdgmbhnfeeaa", sum := "4f603d5e7369d29d57a5af1cbe3e697570eb0bc89c244ca056c99c3fa621c4a8", func := "loop.example/pub-g01450/laws.FnOldEscapeByte", spec := "fnOldEscapeByte", apart := false }
def FnOldEscapeByteSaid : Prop := fnOldEscapeByteRow.holds Try.pinned (OpenSpec.ofChange fnOldEscapeByteSpec)

/-- ITS FALSE NEIGHBOUR: 'it returns false'. Refute it at one input. -/
def fnOldEscapeByteWrong : ChangeSpec := { name := "fnOldEscapeByte", fn := fun _ => fun
  | [d] => { results := [.lit (.bool false)], args := [d] }
  | _ => none }
def FnOldEscapeByteWrongFalsely : Prop := fnOldEscapeByteRow.holds Try.pinned (OpenSpec.ofChange fnOldEscapeByteWrong)

/-- 'laws.FnWireTrims': WHATEVER THE INPUT: true; the input reads as it did. -/
def fnWireTrimsSpec : ChangeSpec := { name := "fnWireTrims", fn := fun _ => fun
  | [d1, d2] => { results := [.lit (.bool true)], args := [d1, d2] }
  | _ => none }
def fnWireTrimsRow : OpenClaim := { program := "ytegfdgmbhnfeeaa", sum := "4f603d5e7369d29d57a5af1cbe3e697570eb0bc89c244ca056c99c3fa621c4a8", func := "loop.example/pub-g01450/laws.FnWireTrims", spec := "fnWireTrims", apart := false }
def FnWireTrimsSaid : Prop := fnWireTrimsRow.holds Try.pinned (OpenSpec.ofChange fnWireTrimsSpec)

/-- ITS FALSE NEIGHBOUR: 'it returns false'. Refute it at one input. -/
def fnWireTrimsWrong : ChangeSpec := { name := "fnWireTrims", fn := fun _ => fun
  | [d1, d2] => { results := [.lit (.bool false)], args := [d1, d2] }
  | _ => none }
def FnWireTrimsWrongFalsely : Prop := fnWireTrimsRow.holds Try.pinned (OpenSpec.ofChange fnWireTrimsWrong)

/-- 'laws.FnPointerLast': WHATEVER THE INPUT: true; the input reads as it did. -/
def fnPointerLastSpec : ChangeSpec := { name := "fnPointerLast", fn := fun _ => fun
  | [d] => { results := [.lit (.bool true)], args := [d] }
  | _ => none }
def fnPointerLastRow : OpenClaim := { program := "ytegfdgmbhnfeeaa", sum := "4f603d5e7369d29d57a5af1cbe3e697570eb0bc89c244ca056c99c3fa621c4a8", func := "loop.example/pub-g01450/laws.FnPointerLast", spec := "fnPointerLast", apart := false }
def FnPointerLastSaid : Prop := fnPointerLastRow.holds Try.pinned (OpenSpec.ofChange fnPointerLastSpec)

/-- ITS FALSE NEIGHBOUR: 'it returns false'. Refute it at one input. -/
def fnPointerLastWrong : ChangeSpec := { name := "fnPointerLast", fn := fun _ => fun
  | [d] => { results := [.lit (.bool false)], args := [d] }
  | _ => none }
def FnPointerLastWrongFalsely : Prop := fnPointerLastRow.holds Try.pinned (OpenSpec.ofChange fnPointerLastWrong)

/-- 'laws.FnOldNumber': WHATEVER THE INPUT: true; the input reads as it did. -/
def fnOldNumberSpec : ChangeSpec := { name := "fnOldNumber", fn := fun _ => fun
  | [d] => { results := [.lit (.bool true)], args := [d] }
  | _ => none }
def fnOldNumberRow : OpenClaim := { program := "ytegfdgmbhnfeeaa", sum := "4f603d5e7369d29d57a5af1cbe3e697570eb0bc89c244ca056c99c3fa621c4a8", func := "loop.example/pub-g01450/laws.FnOldNumber", spec := "fnOldNumber", apart := false }
def FnOldNumberSaid : Prop := fnOldNumberRow.holds Try.pinned (OpenSpec.ofChange fnOldNumberSpec)

/-- ITS FALSE NEIGHBOUR: 'it returns false'. Refute it at one input. -/
def fnOldNumberWrong : ChangeSpec := { name := "fnOldNumber", fn := fun _ => fun
  | [d] => { results := [.lit (.bool false)], args := [d] }
  | _ => none }
def FnOldNumberWrongFalsely : Prop := fnOldNumberRow.holds Try.pinned (OpenSpec.ofChange fnOldNumberWrong)

/-- 'laws.FnPointerTexts': WHATEVER THE INPUT: true; the input reads as it did. -/
def fnPointerTextsSpec : ChangeSpec := { name := "fnPointerTexts", fn := fun _ => fun
  | [d] => { results := [.lit (.bool true)], args := [d] }
  | _ => none }
def fnPointerTextsRow : OpenClaim := { program := "ytegfdgmbhnfeeaa", sum := "4f603d5e7369d29d57a5af1cbe3e697570eb0bc89c244ca056c99c3fa621c4a8", func := "loop.example/pub-g01450/laws.FnPointerTexts", spec := "fnPointerTexts", inPlace := ["internal/bytealg.IndexByteString"], unfollowed := true, recurses := true, apart := false }
def FnPointerTextsSaid : Prop := fnPointerTextsRow.holds Try.pinned (OpenSpec.ofChange fnPointerTextsSpec)

/-- ITS FALSE NEIGHBOUR: 'it returns false'. Refute it at one input. -/
def fnPointerTextsWrong : ChangeSpec := { name := "fnPointerTexts", fn := fun _ => fun
  | [d] => { results := [.lit (.bool false)], args := [d] }
  | _ => none }
def FnPointerTextsWrongFalsely : Prop := fnPointerTextsRow.holds Try.pinned (OpenSpec.ofChange fnPointerTextsWrong)

/- THE SECOND FORM. 'bulk': how many values and letters a reading holds, each counted each time it is reached (what is shared counts as often as it is met; a slice's spare places count too). A statement '..UptoSaid' is the law's where the arguments, and the package variables that the reading takes, are together of bulk at most 1048576: NARROWER than '..Said'. Prove '..Said' where nothing that the law and all that it calls make is longer than what came in: it says more and counts as full. Else prove '..UptoSaid'. A law counts once. -/
mutual
def uptoBulk {H : Type} : DataW H → Nat
  | .lit (.string bytes) => bytes.length + 1
  | .lit _ => 1
  | .nil => 1
  | .ptr d => uptoBulk d + 1
  | .slice elems spare => uptoBulkAll elems + uptoBulkAll spare + 1
  | .agg parts => uptoBulkAll parts + 1
  | .iface _ d => uptoBulk d + 1
  | .map entries => uptoBulkEntries entries + 1
  | .held _ => 1
def uptoBulkAll {H : Type} : List (DataW H) → Nat
  | [] => 0
  | d :: r => uptoBulk d + uptoBulkAll r
def uptoBulkEntries {H : Type} : List (Lit × DataW H) → Nat
  | [] => 0
  | x :: r => uptoBulkEntry x + uptoBulkEntries r
def uptoBulkEntry {H : Type} : Lit × DataW H → Nat
  | (.string bytes, d) => bytes.length + uptoBulk d + 1
  | (_, d) => uptoBulk d + 1
 end
def uptoSmall : (H : Type) → List (DataW H) → Bool := fun _ ds => decide (uptoBulkAll ds ≤ 1048576)
def OpenSpec.upto (s : _root_.Go.ChangeSpec) : _root_.Go.OpenSpec := { _root_.Go.OpenSpec.ofChange s with cond := some uptoSmall }

/-- 'laws.FnOldEscapeByte', WHERE WHAT IT READS IS OF BULK AT MOST 1048576: true; the input reads as it did. -/
def fnOldEscapeByteUptoRow : OpenClaim := { program := "ytegfdgmbhnfeeaa", sum := "4f603d5e7369d29d57a5af1cbe3e697570eb0bc89c244ca056c99c3fa621c4a8", func := "loop.example/pub-g01450/laws.FnOldEscapeByte", spec := "fnOldEscapeByte", apart := false, narrowed := true }
def FnOldEscapeByteUptoSaid : Prop := fnOldEscapeByteUptoRow.holds Try.pinned (OpenSpec.upto fnOldEscapeByteSpec)

/-- 'laws.FnWireTrims', WHERE WHAT IT READS IS OF BULK AT MOST 1048576: true; the input reads as it did. -/
def fnWireTrimsUptoRow : OpenClaim := { program := "ytegfdgmbhnfeeaa", sum := "4f603d5e7369d29d57a5af1cbe3e697570eb0bc89c244ca056c99c3fa621c4a8", func := "loop.example/pub-g01450/laws.FnWireTrims", spec := "fnWireTrims", apart := false, narrowed := true }
def FnWireTrimsUptoSaid : Prop := fnWireTrimsUptoRow.holds Try.pinned (OpenSpec.upto fnWireTrimsSpec)

/-- 'laws.FnPointerLast', WHERE WHAT IT READS IS OF BULK AT MOST 1048576: true; the input reads as it did. -/
def fnPointerLastUptoRow : OpenClaim := { program := "ytegfdgmbhnfeeaa", sum := "4f603d5e7369d29d57a5af1cbe3e697570eb0bc89c244ca056c99c3fa621c4a8", func := "loop.example/pub-g01450/laws.FnPointerLast", spec := "fnPointerLast", apart := false, narrowed := true }
def FnPointerLastUptoSaid : Prop := fnPointerLastUptoRow.holds Try.pinned (OpenSpec.upto fnPointerLastSpec)

/-- 'laws.FnOldNumber', WHERE WHAT IT READS IS OF BULK AT MOST 1048576: true; the input reads as it did. -/
def fnOldNumberUptoRow : OpenClaim := { program := "ytegfdgmbhnfeeaa", sum := "4f603d5e7369d29d57a5af1cbe3e697570eb0bc89c244ca056c99c3fa621c4a8", func := "loop.example/pub-g01450/laws.FnOldNumber", spec := "fnOldNumber", apart := false, narrowed := true }
def FnOldNumberUptoSaid : Prop := fnOldNumberUptoRow.holds Try.pinned (OpenSpec.upto fnOldNumberSpec)

/-- 'laws.FnPointerTexts', WHERE WHAT IT READS IS OF BULK AT MOST 1048576: true; the input reads as it did. -/
def fnPointerTextsUptoRow : OpenClaim := { program := "ytegfdgmbhnfeeaa", sum := "4f603d5e7369d29d57a5af1cbe3e697570eb0bc89c244ca056c99c3fa621c4a8", func := "loop.example/pub-g01450/laws.FnPointerTexts", spec := "fnPointerTexts", inPlace := ["internal/bytealg.IndexByteString"], unfollowed := true, recurses := true, apart := false, narrowed := true }
def FnPointerTextsUptoSaid : Prop := fnPointerTextsUptoRow.holds Try.pinned (OpenSpec.upto fnPointerTextsSpec)

end Rows
end Go.Proofs.Ytegfdgmbhnfeeaa
