/-
  NARROWER THAN 'FOR EVERY INPUT', by the rows' own cells (each row's printed sentence says how): FnOldEscape: laid · FnOldQuoteSafe: laid · FnOldUnquote: laid · FnOldPlaces: laid · FnOldBuffers: laid.
  DERIVED. THE GIVEN ROWS OF THIS SEAT. 5 by the template 'for every input the law returns true; each argument reads behind the call as it read before'; 0 by the template 'total and deterministic' (their statements: YtklncgmfbflooaaDoorTotals.lean).
  GIVEN WITH THE SEED: the statements are not yours to turn. If you find one false, say at which input.
  Laid BY PROGRAM, IN A SANDBOX (cutbox-rows.mjs): the forced cells as the released guide's own fill.sh prints them over the translation 6c4cf13e990a0b5e… (all of the seat's roots in one cut). By AI agents, Wed Nov 11 2026. No macro, syntax, notation, axiom, sorry.
-/
import Derived.Test.YtklncgmfbflooaaDoorChecked
import GoSem.PinnedTables
import GoSem.Claim
import GoSem.ClaimJoined
import GoSem.ClaimMapViews
import Derived.JoinedTies
import Derived.KernelRfl
namespace Go.Proofs.YtklncgmfbflooaaDoor
/- THE CELL 'sum', in the pinned program and in every row, IS THE sha256 OF THE DUMP (.gsa) THAT YtklncgmfbflooaaDoorProg.lean LOADS. Nothing in Lean hashes anything: it is a label: what it is worth is what the hold of that sum in a sandbox is worth. -/
noncomputable def Tryd.pinned : Pinned := { name := "ytklncgmfbflooaadoor", sum := "6c4cf13e990a0b5e94237425b00e73098fc1ba7efd0a11ef405738a0e133ae98", checked := Tryd.checked }
namespace Rows
def none {H : Type} : Left H := { results := [], args := [] }

/- WHAT THE LISTED PACKAGE-LEVEL VARIABLES READ AS WHEN THE CALL BEGINS. Each datum BY PROGRAM (the guide's laid-datum.mjs) off the statement by which the dump's own 'gosem.cut.vars' lays the variable. In a bare row this is a premise. The card (YtklncgmfbflooaaDoorCards.lean) ties it to the program's text. -/
def laid_bytes_ErrTooLarge {H : Type} : DataW H := .iface "*errors.errorString" (.ptr (.agg [.lit (.string [98, 121, 116, 101, 115, 46, 66, 117, 102, 102, 101, 114, 58, 32, 116, 111, 111, 32, 108, 97, 114, 103, 101])]))
def laid_unicode_utf8_acceptRanges {H : Type} : DataW H := .agg [.agg [.lit (.int .u8 128), .lit (.int .u8 191)], .agg [.lit (.int .u8 160), .lit (.int .u8 191)], .agg [.lit (.int .u8 128), .lit (.int .u8 159)], .agg [.lit (.int .u8 144), .lit (.int .u8 191)], .agg [.lit (.int .u8 128), .lit (.int .u8 143)], .agg [.lit (.int .u8 0), .lit (.int .u8 0)], .agg [.lit (.int .u8 0), .lit (.int .u8 0)], .agg [.lit (.int .u8 0), .lit (.int .u8 0)], .agg [.lit (.int .u8 0), .lit (.int .u8 0)], .agg [.lit (.int .u8 0), .lit (.int .u8 0)], .agg [.lit (.int .u8 0), .lit (.int .u8 0)], .agg [.lit (.int .u8 0), .lit (.int .u8 0)], .agg [.lit (.int .u8 0), .lit (.int .u8 0)], .agg [.lit (.int .u8 0), .lit (.int .u8 0)], .agg [.lit (.int .u8 0), .lit (.int .u8 0)], .agg [.lit (.int .u8 0), .lit (.int .u8 0)]]
def laid_loop_example_pub_g01450_pub_jsonscan_safeSet {H : Type} : DataW H := .agg [.lit (.bool false), .lit (.bool false), .lit (.bool false), .lit (.bool false), .lit (.bool false), .lit (.bool false), .lit (.bool false), .lit (.bool false), .lit (.bool false), .lit (.bool false), .lit (.bool false), .lit (.bool false), .lit (.bool false), .lit (.bool false), .lit (.bool false), .lit (.bool false), .lit (.bool false), .lit (.bool false), .lit (.bool false), .lit (.bool false), .lit (.bool false), .lit (.bool false), .lit (.bool false), .lit (.bool false), .lit (.bool false), .lit (.bool false), .lit (.bool false), .lit (.bool false), .lit (.bool false), .lit (.bool false), .lit (.bool false), .lit (.bool false), .lit (.bool true), .lit (.bool true), .lit (.bool false), .lit (.bool true), .lit (.bool true), .lit (.bool true), .lit (.bool true), .lit (.bool true), .lit (.bool true), .lit (.bool true), .lit (.bool true), .lit (.bool true), .lit (.bool true), .lit (.bool true), .lit (.bool true), .lit (.bool true), .lit (.bool true), .lit (.bool true), .lit (.bool true), .lit (.bool true), .lit (.bool true), .lit (.bool true), .lit (.bool true), .lit (.bool true), .lit (.bool true), .lit (.bool true), .lit (.bool true), .lit (.bool true), .lit (.bool true), .lit (.bool true), .lit (.bool true), .lit (.bool true), .lit (.bool true), .lit (.bool true), .lit (.bool true), .lit (.bool true), .lit (.bool true), .lit (.bool true), .lit (.bool true), .lit (.bool true), .lit (.bool true), .lit (.bool true), .lit (.bool true), .lit (.bool true), .lit (.bool true), .lit (.bool true), .lit (.bool true), .lit (.bool true), .lit (.bool true), .lit (.bool true), .lit (.bool true), .lit (.bool true), .lit (.bool true), .lit (.bool true), .lit (.bool true), .lit (.bool true), .lit (.bool true), .lit (.bool true), .lit (.bool true), .lit (.bool true), .lit (.bool false), .lit (.bool true), .lit (.bool true), .lit (.bool true), .lit (.bool true), .lit (.bool true), .lit (.bool true), .lit (.bool true), .lit (.bool true), .lit (.bool true), .lit (.bool true), .lit (.bool true), .lit (.bool true), .lit (.bool true), .lit (.bool true), .lit (.bool true), .lit (.bool true), .lit (.bool true), .lit (.bool true), .lit (.bool true), .lit (.bool true), .lit (.bool true), .lit (.bool true), .lit (.bool true), .lit (.bool true), .lit (.bool true), .lit (.bool true), .lit (.bool true), .lit (.bool true), .lit (.bool true), .lit (.bool true), .lit (.bool true), .lit (.bool true), .lit (.bool true), .lit (.bool true), .lit (.bool true)]
def laid_loop_example_pub_g01450_pub_jsonscan_htmlSafeSet {H : Type} : DataW H := .agg [.lit (.bool false), .lit (.bool false), .lit (.bool false), .lit (.bool false), .lit (.bool false), .lit (.bool false), .lit (.bool false), .lit (.bool false), .lit (.bool false), .lit (.bool false), .lit (.bool false), .lit (.bool false), .lit (.bool false), .lit (.bool false), .lit (.bool false), .lit (.bool false), .lit (.bool false), .lit (.bool false), .lit (.bool false), .lit (.bool false), .lit (.bool false), .lit (.bool false), .lit (.bool false), .lit (.bool false), .lit (.bool false), .lit (.bool false), .lit (.bool false), .lit (.bool false), .lit (.bool false), .lit (.bool false), .lit (.bool false), .lit (.bool false), .lit (.bool true), .lit (.bool true), .lit (.bool false), .lit (.bool true), .lit (.bool true), .lit (.bool true), .lit (.bool false), .lit (.bool true), .lit (.bool true), .lit (.bool true), .lit (.bool true), .lit (.bool true), .lit (.bool true), .lit (.bool true), .lit (.bool true), .lit (.bool true), .lit (.bool true), .lit (.bool true), .lit (.bool true), .lit (.bool true), .lit (.bool true), .lit (.bool true), .lit (.bool true), .lit (.bool true), .lit (.bool true), .lit (.bool true), .lit (.bool true), .lit (.bool true), .lit (.bool false), .lit (.bool true), .lit (.bool false), .lit (.bool true), .lit (.bool true), .lit (.bool true), .lit (.bool true), .lit (.bool true), .lit (.bool true), .lit (.bool true), .lit (.bool true), .lit (.bool true), .lit (.bool true), .lit (.bool true), .lit (.bool true), .lit (.bool true), .lit (.bool true), .lit (.bool true), .lit (.bool true), .lit (.bool true), .lit (.bool true), .lit (.bool true), .lit (.bool true), .lit (.bool true), .lit (.bool true), .lit (.bool true), .lit (.bool true), .lit (.bool true), .lit (.bool true), .lit (.bool true), .lit (.bool true), .lit (.bool true), .lit (.bool false), .lit (.bool true), .lit (.bool true), .lit (.bool true), .lit (.bool true), .lit (.bool true), .lit (.bool true), .lit (.bool true), .lit (.bool true), .lit (.bool true), .lit (.bool true), .lit (.bool true), .lit (.bool true), .lit (.bool true), .lit (.bool true), .lit (.bool true), .lit (.bool true), .lit (.bool true), .lit (.bool true), .lit (.bool true), .lit (.bool true), .lit (.bool true), .lit (.bool true), .lit (.bool true), .lit (.bool true), .lit (.bool true), .lit (.bool true), .lit (.bool true), .lit (.bool true), .lit (.bool true), .lit (.bool true), .lit (.bool true), .lit (.bool true), .lit (.bool true), .lit (.bool true), .lit (.bool true)]
/-- One of Go's own tables, pinned by name: the form's constant. -/
def laid_unicode_utf8_first : DataW Unit := Go.Pinned.utf8First

/-- 'laws.FnOldEscape': WHATEVER THE INPUT: true; the input reads as it did. -/
def fnOldEscapeSpec : ChangeSpec := { name := "fnOldEscape", fn := fun _ => fun
  | [d1, d2] => { results := [.lit (.bool true)], args := [d1, d2] }
  | _ => none }
def fnOldEscapeRow : OpenClaim := { program := "ytklncgmfbflooaadoor", sum := "6c4cf13e990a0b5e94237425b00e73098fc1ba7efd0a11ef405738a0e133ae98", func := "loop.example/pub-g01450/laws.FnOldEscape", spec := "fnOldEscape", recurses := true, named := ["bytes.ErrTooLarge"], apart := false, laid := [("bytes.ErrTooLarge", laid_bytes_ErrTooLarge)] }
def FnOldEscapeSaid : Prop := fnOldEscapeRow.holds Tryd.pinned (OpenSpec.ofChange fnOldEscapeSpec)

/-- ITS FALSE NEIGHBOUR: 'it returns false'. Refute it at one input. -/
def fnOldEscapeWrong : ChangeSpec := { name := "fnOldEscape", fn := fun _ => fun
  | [d1, d2] => { results := [.lit (.bool false)], args := [d1, d2] }
  | _ => none }
def FnOldEscapeWrongFalsely : Prop := fnOldEscapeRow.holds Tryd.pinned (OpenSpec.ofChange fnOldEscapeWrong)

/-- 'laws.FnOldQuoteSafe': WHATEVER THE INPUT: true; the input reads as it did. -/
def fnOldQuoteSafeSpec : ChangeSpec := { name := "fnOldQuoteSafe", vars := ["loop.example/pub-g01450/pub/jsonscan.htmlSafeSet", "loop.example/pub-g01450/pub/jsonscan.safeSet"], fn := fun _ => fun
  | [d, g1, g2] => { results := [.lit (.bool true)], args := [d], vars := [g1, g2] }
  | _ => none }
def fnOldQuoteSafeRow : OpenClaim := { program := "ytklncgmfbflooaadoor", sum := "6c4cf13e990a0b5e94237425b00e73098fc1ba7efd0a11ef405738a0e133ae98", func := "loop.example/pub-g01450/laws.FnOldQuoteSafe", spec := "fnOldQuoteSafe", named := ["loop.example/pub-g01450/pub/jsonscan.htmlSafeSet", "loop.example/pub-g01450/pub/jsonscan.safeSet", "unicode/utf8.first", "unicode/utf8.acceptRanges"], apart := false, laid := [("unicode/utf8.acceptRanges", laid_unicode_utf8_acceptRanges), ("loop.example/pub-g01450/pub/jsonscan.safeSet", laid_loop_example_pub_g01450_pub_jsonscan_safeSet), ("loop.example/pub-g01450/pub/jsonscan.htmlSafeSet", laid_loop_example_pub_g01450_pub_jsonscan_htmlSafeSet), ("unicode/utf8.first", laid_unicode_utf8_first)] }
def FnOldQuoteSafeSaid : Prop := fnOldQuoteSafeRow.holds Tryd.pinned (OpenSpec.ofChange fnOldQuoteSafeSpec)

/-- ITS FALSE NEIGHBOUR: 'it returns false'. Refute it at one input. -/
def fnOldQuoteSafeWrong : ChangeSpec := { name := "fnOldQuoteSafe", vars := ["loop.example/pub-g01450/pub/jsonscan.htmlSafeSet", "loop.example/pub-g01450/pub/jsonscan.safeSet"], fn := fun _ => fun
  | [d, g1, g2] => { results := [.lit (.bool false)], args := [d], vars := [g1, g2] }
  | _ => none }
def FnOldQuoteSafeWrongFalsely : Prop := fnOldQuoteSafeRow.holds Tryd.pinned (OpenSpec.ofChange fnOldQuoteSafeWrong)

/-- 'laws.FnOldUnquote': WHATEVER THE INPUT: true; the input reads as it did. -/
def fnOldUnquoteSpec : ChangeSpec := { name := "fnOldUnquote", fn := fun _ => fun
  | [d] => { results := [.lit (.bool true)], args := [d] }
  | _ => none }
def fnOldUnquoteRow : OpenClaim := { program := "ytklncgmfbflooaadoor", sum := "6c4cf13e990a0b5e94237425b00e73098fc1ba7efd0a11ef405738a0e133ae98", func := "loop.example/pub-g01450/laws.FnOldUnquote", spec := "fnOldUnquote", recurses := true, named := ["unicode/utf8.first", "unicode/utf8.acceptRanges"], apart := false, laid := [("unicode/utf8.acceptRanges", laid_unicode_utf8_acceptRanges), ("unicode/utf8.first", laid_unicode_utf8_first)] }
def FnOldUnquoteSaid : Prop := fnOldUnquoteRow.holds Tryd.pinned (OpenSpec.ofChange fnOldUnquoteSpec)

/-- ITS FALSE NEIGHBOUR: 'it returns false'. Refute it at one input. -/
def fnOldUnquoteWrong : ChangeSpec := { name := "fnOldUnquote", fn := fun _ => fun
  | [d] => { results := [.lit (.bool false)], args := [d] }
  | _ => none }
def FnOldUnquoteWrongFalsely : Prop := fnOldUnquoteRow.holds Tryd.pinned (OpenSpec.ofChange fnOldUnquoteWrong)

/-- 'laws.FnOldPlaces': WHATEVER THE INPUT: true; the input reads as it did. -/
def fnOldPlacesSpec : ChangeSpec := { name := "fnOldPlaces", fn := fun _ => fun
  | [d1, d2, d3, d4] => { results := [.lit (.bool true)], args := [d1, d2, d3, d4] }
  | _ => none }
def fnOldPlacesRow : OpenClaim := { program := "ytklncgmfbflooaadoor", sum := "6c4cf13e990a0b5e94237425b00e73098fc1ba7efd0a11ef405738a0e133ae98", func := "loop.example/pub-g01450/laws.FnOldPlaces", spec := "fnOldPlaces", unfollowed := true, recurses := true, named := ["bytes.ErrTooLarge"], apart := false, laid := [("bytes.ErrTooLarge", laid_bytes_ErrTooLarge)] }
def FnOldPlacesSaid : Prop := fnOldPlacesRow.holds Tryd.pinned (OpenSpec.ofChange fnOldPlacesSpec)

/-- ITS FALSE NEIGHBOUR: 'it returns false'. Refute it at one input. -/
def fnOldPlacesWrong : ChangeSpec := { name := "fnOldPlaces", fn := fun _ => fun
  | [d1, d2, d3, d4] => { results := [.lit (.bool false)], args := [d1, d2, d3, d4] }
  | _ => none }
def FnOldPlacesWrongFalsely : Prop := fnOldPlacesRow.holds Tryd.pinned (OpenSpec.ofChange fnOldPlacesWrong)

/-- 'laws.FnOldBuffers': WHATEVER THE INPUT: true; the input reads as it did. -/
def fnOldBuffersSpec : ChangeSpec := { name := "fnOldBuffers", fn := fun _ => fun
  | [d1, d2, d3, d4] => { results := [.lit (.bool true)], args := [d1, d2, d3, d4] }
  | _ => none }
def fnOldBuffersRow : OpenClaim := { program := "ytklncgmfbflooaadoor", sum := "6c4cf13e990a0b5e94237425b00e73098fc1ba7efd0a11ef405738a0e133ae98", func := "loop.example/pub-g01450/laws.FnOldBuffers", spec := "fnOldBuffers", unfollowed := true, recurses := true, named := ["bytes.ErrTooLarge"], apart := false, laid := [("bytes.ErrTooLarge", laid_bytes_ErrTooLarge)] }
def FnOldBuffersSaid : Prop := fnOldBuffersRow.holds Tryd.pinned (OpenSpec.ofChange fnOldBuffersSpec)

/-- ITS FALSE NEIGHBOUR: 'it returns false'. Refute it at one input. -/
def fnOldBuffersWrong : ChangeSpec := { name := "fnOldBuffers", fn := fun _ => fun
  | [d1, d2, d3, d4] => { results := [.lit (.bool false)], args := [d1, d2, d3, d4] }
  | _ => none }
def FnOldBuffersWrongFalsely : Prop := fnOldBuffersRow.holds Tryd.pinned (OpenSpec.ofChange fnOldBuffersWrong)

/- THE SECOND FORM. 'bulk': how many values and letters a reading holds, each counted each time it is reached (what is shared counts as often as it is met; a slice's spare places count too). A statement '..UptoSaid' is the law's where the arguments, and the package variables that the reading takes, are together of bulk at most 1048576: NARROWER than '..Said'. Prove '..Said' where nothing that the law and all that it calls make is longer than what came in: it says more and counts as full. Else prove '..UptoSaid'. A law counts once. -/
mutual
def uptoBulk {H : Type} : DataW H → Nat
  | .lit (.string bytes) => bytes.length + 1
  | .lit _ => 1
  | .nil => 1
  | .ptr d => uptoBulk d + 1
  | .slice elems spare => uptoBulkAll elems + uptoBulkAll spare + 1
  | .agg parts => uptoBulkAll parts + 1
  | .iface _ d => uptoBulk d + 1
  | .map entries => uptoBulkEntries entries + 1
  | .held _ => 1
def uptoBulkAll {H : Type} : List (DataW H) → Nat
  | [] => 0
  | d :: r => uptoBulk d + uptoBulkAll r
def uptoBulkEntries {H : Type} : List (Lit × DataW H) → Nat
  | [] => 0
  | x :: r => uptoBulkEntry x + uptoBulkEntries r
def uptoBulkEntry {H : Type} : Lit × DataW H → Nat
  | (.string bytes, d) => bytes.length + uptoBulk d + 1
  | (_, d) => uptoBulk d + 1
 end
def uptoSmall : (H : Type) → List (DataW H) → Bool := fun _ ds => decide (uptoBulkAll ds ≤ 1048576)
def OpenSpec.upto (s : _root_.Go.ChangeSpec) : _root_.Go.OpenSpec := { _root_.Go.OpenSpec.ofChange s with cond := some uptoSmall }

/-- 'laws.FnOldEscape', WHERE WHAT IT READS IS OF BULK AT MOST 1048576: true; the input reads as it did. -/
def fnOldEscapeUptoRow : OpenClaim := { program := "ytklncgmfbflooaadoor", sum := "6c4cf13e990a0b5e94237425b00e73098fc1ba7efd0a11ef405738a0e133ae98", func := "loop.example/pub-g01450/laws.FnOldEscape", spec := "fnOldEscape", recurses := true, named := ["bytes.ErrTooLarge"], apart := false, laid := [("bytes.ErrTooLarge", laid_bytes_ErrTooLarge)], narrowed := true }
def FnOldEscapeUptoSaid : Prop := fnOldEscapeUptoRow.holds Tryd.pinned (OpenSpec.upto fnOldEscapeSpec)

/-- 'laws.FnOldQuoteSafe', WHERE WHAT IT READS IS OF BULK AT MOST 1048576: true; the input reads as it did. -/
def fnOldQuoteSafeUptoRow : OpenClaim := { program := "ytklncgmfbflooaadoor", sum := "6c4cf13e990a0b5e94237425b00e73098fc1ba7efd0a11ef405738a0e133ae98", func := "loop.example/pub-g01450/laws.FnOldQuoteSafe", spec := "fnOldQuoteSafe", named := ["loop.example/pub-g01450/pub/jsonscan.htmlSafeSet", "loop.example/pub-g01450/pub/jsonscan.safeSet", "unicode/utf8.first", "unicode/utf8.acceptRanges"], apart := false, laid := [("unicode/utf8.acceptRanges", laid_unicode_utf8_acceptRanges), ("loop.example/pub-g01450/pub/jsonscan.safeSet", laid_loop_example_pub_g01450_pub_jsonscan_safeSet), ("loop.example/pub-g01450/pub/jsonscan.htmlSafeSet", laid_loop_example_pub_g01450_pub_jsonscan_htmlSafeSet), ("unicode/utf8.first", laid_unicode_utf8_first)], narrowed := true }
def FnOldQuoteSafeUptoSaid : Prop := fnOldQuoteSafeUptoRow.holds Tryd.pinned (OpenSpec.upto fnOldQuoteSafeSpec)

/-- 'laws.FnOldUnquote', WHERE WHAT IT READS IS OF BULK AT MOST 1048576: true; the input reads as it did. -/
def fnOldUnquoteUptoRow : OpenClaim := { program := "ytklncgmfbflooaadoor", sum := "6c4cf13e990a0b5e94237425b00e73098fc1ba7efd0a11ef405738a0e133ae98", func := "loop.example/pub-g01450/laws.FnOldUnquote", spec := "fnOldUnquote", recurses := true, named := ["unicode/utf8.first", "unicode/utf8.acceptRanges"], apart := false, laid := [("unicode/utf8.acceptRanges", laid_unicode_utf8_acceptRanges), ("unicode/utf8.first", laid_unicode_utf8_first)], narrowed := true }
def FnOldUnquoteUptoSaid : Prop := fnOldUnquoteUptoRow.holds Tryd.pinned (OpenSpec.upto fnOldUnquoteSpec)

/-- 'laws.FnOldPlaces', WHERE WHAT IT READS IS OF BULK AT MOST 1048576: true; the input reads as it did. -/
def fnOldPlacesUptoRow : OpenClaim := { program := "ytklncgmfbflooaadoor", sum := "6c4cf13e990a0b5e94237425b00e73098fc1ba7efd0a11ef405738a0e133ae98", func := "loop.example/pub-g01450/laws.FnOldPlaces", spec := "fnOldPlaces", unfollowed := true, recurses := true, named := ["bytes.ErrTooLarge"], apart := false, laid := [("bytes.ErrTooLarge", laid_bytes_ErrTooLarge)], narrowed := true }
def FnOldPlacesUptoSaid : Prop := fnOldPlacesUptoRow.holds Tryd.pinned (OpenSpec.upto fnOldPlacesSpec)

/-- 'laws.FnOldBuffers', WHERE WHAT IT READS IS OF BULK AT MOST 1048576: true; the input reads as it did. -/
def fnOldBuffersUptoRow : OpenClaim := { program := "ytklncgmfbflooaadoor", sum := "6c4cf13e990a0b5e94237425b00e73098fc1ba7efd0a11ef405738a0e133ae98", func := "loop.example/pub-g01450/laws.FnOldBuffers", spec := "fnOldBuffers", unfollowed := true, recurses := true, named := ["bytes.ErrTooLarge"], apart := false, laid := [("bytes.ErrTooLarge", laid_bytes_ErrTooLarge)], narrowed := true }
def FnOldBuffersUptoSaid : Prop := fnOldBuffersUptoRow.holds Tryd.pinned (OpenSpec.upto fnOldBuffersSpec)

end Rows
end Go.Proofs.YtklncgmfbflooaaDoor
