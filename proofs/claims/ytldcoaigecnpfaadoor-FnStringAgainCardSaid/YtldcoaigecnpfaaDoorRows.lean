/-
  NARROWER THAN 'FOR EVERY INPUT', by the rows' own cells (each row's printed sentence says how): FnNeedsEscapeByte: laid · FnCompareAscii: laid · FnQuote: ifaces, laid · FnQuoteByte: ifaces, laid · FnQuoteJoin: ifaces, laid · FnThereAndBack: ifaces, laid · FnStringAgain: ifaces, laid · FnStringKept: ifaces, laid.
  DERIVED. THE GIVEN ROWS OF THIS SEAT. 8 by the template 'for every input the law returns true; each argument reads behind the call as it read before'; 0 by the template 'total and deterministic' (their statements: YtldcoaigecnpfaaDoorTotals.lean).
  GIVEN WITH THE SEED: the statements are not yours to turn. If you find one false, say at which input.
  Laid BY PROGRAM, IN A SANDBOX (cutbox-rows.mjs): the forced cells as the released guide's own fill.sh prints them over the translation ae9835fa486c32aa… (all of the seat's roots in one cut). By AI agents, Wed Nov 11 2026. No macro, syntax, notation, axiom, sorry.
-/
import Derived.Test.YtldcoaigecnpfaaDoorChecked
import GoSem.PinnedTables
import GoSem.Claim
import GoSem.ClaimJoined
import GoSem.ClaimMapViews
import Derived.JoinedTies
import Derived.KernelRfl
namespace Go.Proofs.YtldcoaigecnpfaaDoor
/- THE CELL 'sum', in the pinned program and in every row, IS THE sha256 OF THE DUMP (.gsa) THAT YtldcoaigecnpfaaDoorProg.lean LOADS. Nothing in Lean hashes anything: it is a label: what it is worth is what the hold of that sum in a sandbox is worth. -/
noncomputable def Tryd.pinned : Pinned := { name := "ytldcoaigecnpfaadoor", sum := "ae9835fa486c32aae32d56d1412d33f3edc1e41c27c50257549da3ba17411a18", checked := Tryd.checked }
namespace Rows
def none {H : Type} : Left H := { results := [], args := [] }

/- WHAT THE LISTED PACKAGE-LEVEL VARIABLES READ AS WHEN THE CALL BEGINS. Each datum BY PROGRAM (the guide's laid-datum.mjs) off the statement by which the dump's own 'gosem.cut.vars' lays the variable. In a bare row this is a premise. The card (YtldcoaigecnpfaaDoorCards.lean) ties it to the program's text. -/
def laid_unicode_utf8_acceptRanges {H : Type} : DataW H := .agg [.agg [.lit (.int .u8 128), .lit (.int .u8 191)], .agg [.lit (.int .u8 160), .lit (.int .u8 191)], .agg [.lit (.int .u8 128), .lit (.int .u8 159)], .agg [.lit (.int .u8 144), .lit (.int .u8 191)], .agg [.lit (.int .u8 128), .lit (.int .u8 143)], .agg [.lit (.int .u8 0), .lit (.int .u8 0)], .agg [.lit (.int .u8 0), .lit (.int .u8 0)], .agg [.lit (.int .u8 0), .lit (.int .u8 0)], .agg [.lit (.int .u8 0), .lit (.int .u8 0)], .agg [.lit (.int .u8 0), .lit (.int .u8 0)], .agg [.lit (.int .u8 0), .lit (.int .u8 0)], .agg [.lit (.int .u8 0), .lit (.int .u8 0)], .agg [.lit (.int .u8 0), .lit (.int .u8 0)], .agg [.lit (.int .u8 0), .lit (.int .u8 0)], .agg [.lit (.int .u8 0), .lit (.int .u8 0)], .agg [.lit (.int .u8 0), .lit (.int .u8 0)]]
def laid_loop_example_pub_g01450_pub_jsontext_internal_jsonwire_escapeASCII {H : Type} : DataW H := .agg [.lit (.int .u8 1), .lit (.int .u8 1), .lit (.int .u8 1), .lit (.int .u8 1), .lit (.int .u8 1), .lit (.int .u8 1), .lit (.int .u8 1), .lit (.int .u8 1), .lit (.int .u8 1), .lit (.int .u8 1), .lit (.int .u8 1), .lit (.int .u8 1), .lit (.int .u8 1), .lit (.int .u8 1), .lit (.int .u8 1), .lit (.int .u8 1), .lit (.int .u8 1), .lit (.int .u8 1), .lit (.int .u8 1), .lit (.int .u8 1), .lit (.int .u8 1), .lit (.int .u8 1), .lit (.int .u8 1), .lit (.int .u8 1), .lit (.int .u8 1), .lit (.int .u8 1), .lit (.int .u8 1), .lit (.int .u8 1), .lit (.int .u8 1), .lit (.int .u8 1), .lit (.int .u8 1), .lit (.int .u8 1), .lit (.int .u8 0), .lit (.int .u8 0), .lit (.int .u8 1), .lit (.int .u8 0), .lit (.int .u8 0), .lit (.int .u8 0), .lit (.int .u8 1), .lit (.int .u8 0), .lit (.int .u8 0), .lit (.int .u8 0), .lit (.int .u8 0), .lit (.int .u8 0), .lit (.int .u8 0), .lit (.int .u8 0), .lit (.int .u8 0), .lit (.int .u8 0), .lit (.int .u8 0), .lit (.int .u8 0), .lit (.int .u8 0), .lit (.int .u8 0), .lit (.int .u8 0), .lit (.int .u8 0), .lit (.int .u8 0), .lit (.int .u8 0), .lit (.int .u8 0), .lit (.int .u8 0), .lit (.int .u8 0), .lit (.int .u8 0), .lit (.int .u8 1), .lit (.int .u8 0), .lit (.int .u8 1), .lit (.int .u8 0), .lit (.int .u8 0), .lit (.int .u8 0), .lit (.int .u8 0), .lit (.int .u8 0), .lit (.int .u8 0), .lit (.int .u8 0), .lit (.int .u8 0), .lit (.int .u8 0), .lit (.int .u8 0), .lit (.int .u8 0), .lit (.int .u8 0), .lit (.int .u8 0), .lit (.int .u8 0), .lit (.int .u8 0), .lit (.int .u8 0), .lit (.int .u8 0), .lit (.int .u8 0), .lit (.int .u8 0), .lit (.int .u8 0), .lit (.int .u8 0), .lit (.int .u8 0), .lit (.int .u8 0), .lit (.int .u8 0), .lit (.int .u8 0), .lit (.int .u8 0), .lit (.int .u8 0), .lit (.int .u8 0), .lit (.int .u8 0), .lit (.int .u8 1), .lit (.int .u8 0), .lit (.int .u8 0), .lit (.int .u8 0), .lit (.int .u8 0), .lit (.int .u8 0), .lit (.int .u8 0), .lit (.int .u8 0), .lit (.int .u8 0), .lit (.int .u8 0), .lit (.int .u8 0), .lit (.int .u8 0), .lit (.int .u8 0), .lit (.int .u8 0), .lit (.int .u8 0), .lit (.int .u8 0), .lit (.int .u8 0), .lit (.int .u8 0), .lit (.int .u8 0), .lit (.int .u8 0), .lit (.int .u8 0), .lit (.int .u8 0), .lit (.int .u8 0), .lit (.int .u8 0), .lit (.int .u8 0), .lit (.int .u8 0), .lit (.int .u8 0), .lit (.int .u8 0), .lit (.int .u8 0), .lit (.int .u8 0), .lit (.int .u8 0), .lit (.int .u8 0), .lit (.int .u8 0), .lit (.int .u8 0), .lit (.int .u8 0), .lit (.int .u8 0)]
/-- One of Go's own tables, pinned by name: the form's constant. -/
def laid_unicode_utf8_first : DataW Unit := Go.Pinned.utf8First
def laid_loop_example_pub_g01450_pub_jsontext_internal_jsonwire_ErrInvalidUTF8 {H : Type} : DataW H := .iface "*errors.errorString" (.ptr (.agg [.lit (.string [105, 110, 118, 97, 108, 105, 100, 32, 85, 84, 70, 45, 56])]))
def laid_io_ErrUnexpectedEOF {H : Type} : DataW H := .iface "*errors.errorString" (.ptr (.agg [.lit (.string [117, 110, 101, 120, 112, 101, 99, 116, 101, 100, 32, 69, 79, 70])]))

/-- 'laws.FnNeedsEscapeByte': WHATEVER THE INPUT: true; the input reads as it did. -/
def fnNeedsEscapeByteSpec : ChangeSpec := { name := "fnNeedsEscapeByte", vars := ["loop.example/pub-g01450/pub/jsontext_internal_jsonwire.escapeASCII"], fn := fun _ => fun
  | [d, g1] => { results := [.lit (.bool true)], args := [d], vars := [g1] }
  | _ => none }
def fnNeedsEscapeByteRow : OpenClaim := { program := "ytldcoaigecnpfaadoor", sum := "ae9835fa486c32aae32d56d1412d33f3edc1e41c27c50257549da3ba17411a18", func := "loop.example/pub-g01450/laws.FnNeedsEscapeByte", spec := "fnNeedsEscapeByte", named := ["loop.example/pub-g01450/pub/jsontext_internal_jsonwire.escapeASCII", "unicode/utf8.first", "unicode/utf8.acceptRanges"], apart := false, laid := [("unicode/utf8.acceptRanges", laid_unicode_utf8_acceptRanges), ("loop.example/pub-g01450/pub/jsontext_internal_jsonwire.escapeASCII", laid_loop_example_pub_g01450_pub_jsontext_internal_jsonwire_escapeASCII), ("unicode/utf8.first", laid_unicode_utf8_first)] }
def FnNeedsEscapeByteSaid : Prop := fnNeedsEscapeByteRow.holds Tryd.pinned (OpenSpec.ofChange fnNeedsEscapeByteSpec)

/-- ITS FALSE NEIGHBOUR: 'it returns false'. Refute it at one input. -/
def fnNeedsEscapeByteWrong : ChangeSpec := { name := "fnNeedsEscapeByte", vars := ["loop.example/pub-g01450/pub/jsontext_internal_jsonwire.escapeASCII"], fn := fun _ => fun
  | [d, g1] => { results := [.lit (.bool false)], args := [d], vars := [g1] }
  | _ => none }
def FnNeedsEscapeByteWrongFalsely : Prop := fnNeedsEscapeByteRow.holds Tryd.pinned (OpenSpec.ofChange fnNeedsEscapeByteWrong)

/-- 'laws.FnCompareAscii': WHATEVER THE INPUT: true; the input reads as it did. -/
def fnCompareAsciiSpec : ChangeSpec := { name := "fnCompareAscii", fn := fun _ => fun
  | [d1, d2] => { results := [.lit (.bool true)], args := [d1, d2] }
  | _ => none }
def fnCompareAsciiRow : OpenClaim := { program := "ytldcoaigecnpfaadoor", sum := "ae9835fa486c32aae32d56d1412d33f3edc1e41c27c50257549da3ba17411a18", func := "loop.example/pub-g01450/laws.FnCompareAscii", spec := "fnCompareAscii", unfollowed := true, recurses := true, named := ["unicode/utf8.first", "unicode/utf8.acceptRanges"], apart := false, laid := [("unicode/utf8.acceptRanges", laid_unicode_utf8_acceptRanges), ("unicode/utf8.first", laid_unicode_utf8_first)] }
def FnCompareAsciiSaid : Prop := fnCompareAsciiRow.holds Tryd.pinned (OpenSpec.ofChange fnCompareAsciiSpec)

/-- ITS FALSE NEIGHBOUR: 'it returns false'. Refute it at one input. -/
def fnCompareAsciiWrong : ChangeSpec := { name := "fnCompareAscii", fn := fun _ => fun
  | [d1, d2] => { results := [.lit (.bool false)], args := [d1, d2] }
  | _ => none }
def FnCompareAsciiWrongFalsely : Prop := fnCompareAsciiRow.holds Tryd.pinned (OpenSpec.ofChange fnCompareAsciiWrong)

/-- 'laws.FnQuote': WHATEVER THE INPUT: true; the input reads as it did. -/
def fnQuoteSpec : ChangeSpec := { name := "fnQuote", vars := ["loop.example/pub-g01450/pub/jsontext_internal_jsonwire.escapeASCII", "loop.example/pub-g01450/pub/jsontext_internal_jsonwire.ErrInvalidUTF8"], fn := fun _ => fun
  | [d1, d2, g1, g2] => { results := [.lit (.bool true)], args := [d1, d2], vars := [g1, g2] }
  | _ => none }
def fnQuoteRow : OpenClaim := { program := "ytldcoaigecnpfaadoor", sum := "ae9835fa486c32aae32d56d1412d33f3edc1e41c27c50257549da3ba17411a18", func := "loop.example/pub-g01450/laws.FnQuote", spec := "fnQuote", named := ["loop.example/pub-g01450/pub/jsontext_internal_jsonwire.escapeASCII", "loop.example/pub-g01450/pub/jsontext_internal_jsonwire.ErrInvalidUTF8", "unicode/utf8.first", "unicode/utf8.acceptRanges"], ifaces := true, apart := false, laid := [("unicode/utf8.acceptRanges", laid_unicode_utf8_acceptRanges), ("loop.example/pub-g01450/pub/jsontext_internal_jsonwire.escapeASCII", laid_loop_example_pub_g01450_pub_jsontext_internal_jsonwire_escapeASCII), ("loop.example/pub-g01450/pub/jsontext_internal_jsonwire.ErrInvalidUTF8", laid_loop_example_pub_g01450_pub_jsontext_internal_jsonwire_ErrInvalidUTF8), ("unicode/utf8.first", laid_unicode_utf8_first)] }
def FnQuoteSaid : Prop := fnQuoteRow.holds Tryd.pinned (OpenSpec.ofChange fnQuoteSpec)

/-- ITS FALSE NEIGHBOUR: 'it returns false'. Refute it at one input. -/
def fnQuoteWrong : ChangeSpec := { name := "fnQuote", vars := ["loop.example/pub-g01450/pub/jsontext_internal_jsonwire.escapeASCII", "loop.example/pub-g01450/pub/jsontext_internal_jsonwire.ErrInvalidUTF8"], fn := fun _ => fun
  | [d1, d2, g1, g2] => { results := [.lit (.bool false)], args := [d1, d2], vars := [g1, g2] }
  | _ => none }
def FnQuoteWrongFalsely : Prop := fnQuoteRow.holds Tryd.pinned (OpenSpec.ofChange fnQuoteWrong)

/-- 'laws.FnQuoteByte': WHATEVER THE INPUT: true; the input reads as it did. -/
def fnQuoteByteSpec : ChangeSpec := { name := "fnQuoteByte", vars := ["loop.example/pub-g01450/pub/jsontext_internal_jsonwire.escapeASCII", "loop.example/pub-g01450/pub/jsontext_internal_jsonwire.ErrInvalidUTF8"], fn := fun _ => fun
  | [d, g1, g2] => { results := [.lit (.bool true)], args := [d], vars := [g1, g2] }
  | _ => none }
def fnQuoteByteRow : OpenClaim := { program := "ytldcoaigecnpfaadoor", sum := "ae9835fa486c32aae32d56d1412d33f3edc1e41c27c50257549da3ba17411a18", func := "loop.example/pub-g01450/laws.FnQuoteByte", spec := "fnQuoteByte", named := ["loop.example/pub-g01450/pub/jsontext_internal_jsonwire.escapeASCII", "loop.example/pub-g01450/pub/jsontext_internal_jsonwire.ErrInvalidUTF8", "unicode/utf8.first", "unicode/utf8.acceptRanges"], ifaces := true, apart := false, laid := [("unicode/utf8.acceptRanges", laid_unicode_utf8_acceptRanges), ("loop.example/pub-g01450/pub/jsontext_internal_jsonwire.escapeASCII", laid_loop_example_pub_g01450_pub_jsontext_internal_jsonwire_escapeASCII), ("loop.example/pub-g01450/pub/jsontext_internal_jsonwire.ErrInvalidUTF8", laid_loop_example_pub_g01450_pub_jsontext_internal_jsonwire_ErrInvalidUTF8), ("unicode/utf8.first", laid_unicode_utf8_first)] }
def FnQuoteByteSaid : Prop := fnQuoteByteRow.holds Tryd.pinned (OpenSpec.ofChange fnQuoteByteSpec)

/-- ITS FALSE NEIGHBOUR: 'it returns false'. Refute it at one input. -/
def fnQuoteByteWrong : ChangeSpec := { name := "fnQuoteByte", vars := ["loop.example/pub-g01450/pub/jsontext_internal_jsonwire.escapeASCII", "loop.example/pub-g01450/pub/jsontext_internal_jsonwire.ErrInvalidUTF8"], fn := fun _ => fun
  | [d, g1, g2] => { results := [.lit (.bool false)], args := [d], vars := [g1, g2] }
  | _ => none }
def FnQuoteByteWrongFalsely : Prop := fnQuoteByteRow.holds Tryd.pinned (OpenSpec.ofChange fnQuoteByteWrong)

/-- 'laws.FnQuoteJoin': WHATEVER THE INPUT: true; the input reads as it did. -/
def fnQuoteJoinSpec : ChangeSpec := { name := "fnQuoteJoin", vars := ["loop.example/pub-g01450/pub/jsontext_internal_jsonwire.escapeASCII", "loop.example/pub-g01450/pub/jsontext_internal_jsonwire.ErrInvalidUTF8"], fn := fun _ => fun
  | [d1, d2, g1, g2] => { results := [.lit (.bool true)], args := [d1, d2], vars := [g1, g2] }
  | _ => none }
def fnQuoteJoinRow : OpenClaim := { program := "ytldcoaigecnpfaadoor", sum := "ae9835fa486c32aae32d56d1412d33f3edc1e41c27c50257549da3ba17411a18", func := "loop.example/pub-g01450/laws.FnQuoteJoin", spec := "fnQuoteJoin", named := ["loop.example/pub-g01450/pub/jsontext_internal_jsonwire.escapeASCII", "loop.example/pub-g01450/pub/jsontext_internal_jsonwire.ErrInvalidUTF8", "unicode/utf8.first", "unicode/utf8.acceptRanges"], ifaces := true, apart := false, laid := [("unicode/utf8.acceptRanges", laid_unicode_utf8_acceptRanges), ("loop.example/pub-g01450/pub/jsontext_internal_jsonwire.escapeASCII", laid_loop_example_pub_g01450_pub_jsontext_internal_jsonwire_escapeASCII), ("loop.example/pub-g01450/pub/jsontext_internal_jsonwire.ErrInvalidUTF8", laid_loop_example_pub_g01450_pub_jsontext_internal_jsonwire_ErrInvalidUTF8), ("unicode/utf8.first", laid_unicode_utf8_first)] }
def FnQuoteJoinSaid : Prop := fnQuoteJoinRow.holds Tryd.pinned (OpenSpec.ofChange fnQuoteJoinSpec)

/-- ITS FALSE NEIGHBOUR: 'it returns false'. Refute it at one input. -/
def fnQuoteJoinWrong : ChangeSpec := { name := "fnQuoteJoin", vars := ["loop.example/pub-g01450/pub/jsontext_internal_jsonwire.escapeASCII", "loop.example/pub-g01450/pub/jsontext_internal_jsonwire.ErrInvalidUTF8"], fn := fun _ => fun
  | [d1, d2, g1, g2] => { results := [.lit (.bool false)], args := [d1, d2], vars := [g1, g2] }
  | _ => none }
def FnQuoteJoinWrongFalsely : Prop := fnQuoteJoinRow.holds Tryd.pinned (OpenSpec.ofChange fnQuoteJoinWrong)

/-- 'laws.FnThereAndBack': WHATEVER THE INPUT: true; the input reads as it did. -/
def fnThereAndBackSpec : ChangeSpec := { name := "fnThereAndBack", vars := ["loop.example/pub-g01450/pub/jsontext_internal_jsonwire.escapeASCII", "loop.example/pub-g01450/pub/jsontext_internal_jsonwire.ErrInvalidUTF8"], fn := fun _ => fun
  | [d, g1, g2] => { results := [.lit (.bool true)], args := [d], vars := [g1, g2] }
  | _ => none }
def fnThereAndBackRow : OpenClaim := { program := "ytldcoaigecnpfaadoor", sum := "ae9835fa486c32aae32d56d1412d33f3edc1e41c27c50257549da3ba17411a18", func := "loop.example/pub-g01450/laws.FnThereAndBack", spec := "fnThereAndBack", unfollowed := true, recurses := true, named := ["loop.example/pub-g01450/pub/jsontext_internal_jsonwire.escapeASCII", "loop.example/pub-g01450/pub/jsontext_internal_jsonwire.ErrInvalidUTF8", "unicode/utf8.first", "unicode/utf8.acceptRanges", "io.ErrUnexpectedEOF"], ifaces := true, apart := false, laid := [("unicode/utf8.acceptRanges", laid_unicode_utf8_acceptRanges), ("io.ErrUnexpectedEOF", laid_io_ErrUnexpectedEOF), ("loop.example/pub-g01450/pub/jsontext_internal_jsonwire.escapeASCII", laid_loop_example_pub_g01450_pub_jsontext_internal_jsonwire_escapeASCII), ("loop.example/pub-g01450/pub/jsontext_internal_jsonwire.ErrInvalidUTF8", laid_loop_example_pub_g01450_pub_jsontext_internal_jsonwire_ErrInvalidUTF8), ("unicode/utf8.first", laid_unicode_utf8_first)] }
def FnThereAndBackSaid : Prop := fnThereAndBackRow.holds Tryd.pinned (OpenSpec.ofChange fnThereAndBackSpec)

/-- ITS FALSE NEIGHBOUR: 'it returns false'. Refute it at one input. -/
def fnThereAndBackWrong : ChangeSpec := { name := "fnThereAndBack", vars := ["loop.example/pub-g01450/pub/jsontext_internal_jsonwire.escapeASCII", "loop.example/pub-g01450/pub/jsontext_internal_jsonwire.ErrInvalidUTF8"], fn := fun _ => fun
  | [d, g1, g2] => { results := [.lit (.bool false)], args := [d], vars := [g1, g2] }
  | _ => none }
def FnThereAndBackWrongFalsely : Prop := fnThereAndBackRow.holds Tryd.pinned (OpenSpec.ofChange fnThereAndBackWrong)

/-- 'laws.FnStringAgain': WHATEVER THE INPUT: true; the input reads as it did. -/
def fnStringAgainSpec : ChangeSpec := { name := "fnStringAgain", vars := ["loop.example/pub-g01450/pub/jsontext_internal_jsonwire.ErrInvalidUTF8", "loop.example/pub-g01450/pub/jsontext_internal_jsonwire.escapeASCII"], fn := fun _ => fun
  | [d1, d2, d3, g1, g2] => { results := [.lit (.bool true)], args := [d1, d2, d3], vars := [g1, g2] }
  | _ => none }
def fnStringAgainRow : OpenClaim := { program := "ytldcoaigecnpfaadoor", sum := "ae9835fa486c32aae32d56d1412d33f3edc1e41c27c50257549da3ba17411a18", func := "loop.example/pub-g01450/laws.FnStringAgain", spec := "fnStringAgain", unfollowed := true, recurses := true, named := ["io.ErrUnexpectedEOF", "loop.example/pub-g01450/pub/jsontext_internal_jsonwire.ErrInvalidUTF8", "unicode/utf8.first", "unicode/utf8.acceptRanges", "loop.example/pub-g01450/pub/jsontext_internal_jsonwire.escapeASCII"], ifaces := true, apart := false, laid := [("unicode/utf8.acceptRanges", laid_unicode_utf8_acceptRanges), ("io.ErrUnexpectedEOF", laid_io_ErrUnexpectedEOF), ("loop.example/pub-g01450/pub/jsontext_internal_jsonwire.escapeASCII", laid_loop_example_pub_g01450_pub_jsontext_internal_jsonwire_escapeASCII), ("loop.example/pub-g01450/pub/jsontext_internal_jsonwire.ErrInvalidUTF8", laid_loop_example_pub_g01450_pub_jsontext_internal_jsonwire_ErrInvalidUTF8), ("unicode/utf8.first", laid_unicode_utf8_first)] }
def FnStringAgainSaid : Prop := fnStringAgainRow.holds Tryd.pinned (OpenSpec.ofChange fnStringAgainSpec)

/-- ITS FALSE NEIGHBOUR: 'it returns false'. Refute it at one input. -/
def fnStringAgainWrong : ChangeSpec := { name := "fnStringAgain", vars := ["loop.example/pub-g01450/pub/jsontext_internal_jsonwire.ErrInvalidUTF8", "loop.example/pub-g01450/pub/jsontext_internal_jsonwire.escapeASCII"], fn := fun _ => fun
  | [d1, d2, d3, g1, g2] => { results := [.lit (.bool false)], args := [d1, d2, d3], vars := [g1, g2] }
  | _ => none }
def FnStringAgainWrongFalsely : Prop := fnStringAgainRow.holds Tryd.pinned (OpenSpec.ofChange fnStringAgainWrong)

/-- 'laws.FnStringKept': WHATEVER THE INPUT: true; the input reads as it did. -/
def fnStringKeptSpec : ChangeSpec := { name := "fnStringKept", vars := ["loop.example/pub-g01450/pub/jsontext_internal_jsonwire.ErrInvalidUTF8", "loop.example/pub-g01450/pub/jsontext_internal_jsonwire.escapeASCII"], fn := fun _ => fun
  | [d1, d2, d3, g1, g2] => { results := [.lit (.bool true)], args := [d1, d2, d3], vars := [g1, g2] }
  | _ => none }
def fnStringKeptRow : OpenClaim := { program := "ytldcoaigecnpfaadoor", sum := "ae9835fa486c32aae32d56d1412d33f3edc1e41c27c50257549da3ba17411a18", func := "loop.example/pub-g01450/laws.FnStringKept", spec := "fnStringKept", unfollowed := true, recurses := true, named := ["io.ErrUnexpectedEOF", "loop.example/pub-g01450/pub/jsontext_internal_jsonwire.ErrInvalidUTF8", "unicode/utf8.first", "unicode/utf8.acceptRanges", "loop.example/pub-g01450/pub/jsontext_internal_jsonwire.escapeASCII"], ifaces := true, apart := false, laid := [("unicode/utf8.acceptRanges", laid_unicode_utf8_acceptRanges), ("io.ErrUnexpectedEOF", laid_io_ErrUnexpectedEOF), ("loop.example/pub-g01450/pub/jsontext_internal_jsonwire.escapeASCII", laid_loop_example_pub_g01450_pub_jsontext_internal_jsonwire_escapeASCII), ("loop.example/pub-g01450/pub/jsontext_internal_jsonwire.ErrInvalidUTF8", laid_loop_example_pub_g01450_pub_jsontext_internal_jsonwire_ErrInvalidUTF8), ("unicode/utf8.first", laid_unicode_utf8_first)] }
def FnStringKeptSaid : Prop := fnStringKeptRow.holds Tryd.pinned (OpenSpec.ofChange fnStringKeptSpec)

/-- ITS FALSE NEIGHBOUR: 'it returns false'. Refute it at one input. -/
def fnStringKeptWrong : ChangeSpec := { name := "fnStringKept", vars := ["loop.example/pub-g01450/pub/jsontext_internal_jsonwire.ErrInvalidUTF8", "loop.example/pub-g01450/pub/jsontext_internal_jsonwire.escapeASCII"], fn := fun _ => fun
  | [d1, d2, d3, g1, g2] => { results := [.lit (.bool false)], args := [d1, d2, d3], vars := [g1, g2] }
  | _ => none }
def FnStringKeptWrongFalsely : Prop := fnStringKeptRow.holds Tryd.pinned (OpenSpec.ofChange fnStringKeptWrong)

/- THE SECOND FORM. 'bulk': how many values and letters a reading holds, each counted each time it is reached (what is shared counts as often as it is met; a slice's spare places count too). A statement '..UptoSaid' is the law's where the arguments, and the package variables that the reading takes, are together of bulk at most 1048576: NARROWER than '..Said'. Prove '..Said' where nothing that the law and all that it calls make is longer than what came in: it says more and counts as full. Else prove '..UptoSaid'. A law counts once. -/
mutual
def uptoBulk {H : Type} : DataW H → Nat
  | .lit (.string bytes) => bytes.length + 1
  | .lit _ => 1
  | .nil => 1
  | .ptr d => uptoBulk d + 1
  | .slice elems spare => uptoBulkAll elems + uptoBulkAll spare + 1
  | .agg parts => uptoBulkAll parts + 1
  | .iface _ d => uptoBulk d + 1
  | .map entries => uptoBulkEntries entries + 1
  | .held _ => 1
def uptoBulkAll {H : Type} : List (DataW H) → Nat
  | [] => 0
  | d :: r => uptoBulk d + uptoBulkAll r
def uptoBulkEntries {H : Type} : List (Lit × DataW H) → Nat
  | [] => 0
  | x :: r => uptoBulkEntry x + uptoBulkEntries r
def uptoBulkEntry {H : Type} : Lit × DataW H → Nat
  | (.string bytes, d) => bytes.length + uptoBulk d + 1
  | (_, d) => uptoBulk d + 1
 end
def uptoSmall : (H : Type) → List (DataW H) → Bool := fun _ ds => decide (uptoBulkAll ds ≤ 1048576)
def OpenSpec.upto (s : _root_.Go.ChangeSpec) : _root_.Go.OpenSpec := { _root_.Go.OpenSpec.ofChange s with cond := some uptoSmall }

/-- 'laws.FnNeedsEscapeByte', WHERE WHAT IT READS IS OF BULK AT MOST 1048576: true; the input reads as it did. -/
def fnNeedsEscapeByteUptoRow : OpenClaim := { program := "ytldcoaigecnpfaadoor", sum := "ae9835fa486c32aae32d56d1412d33f3edc1e41c27c50257549da3ba17411a18", func := "loop.example/pub-g01450/laws.FnNeedsEscapeByte", spec := "fnNeedsEscapeByte", named := ["loop.example/pub-g01450/pub/jsontext_internal_jsonwire.escapeASCII", "unicode/utf8.first", "unicode/utf8.acceptRanges"], apart := false, laid := [("unicode/utf8.acceptRanges", laid_unicode_utf8_acceptRanges), ("loop.example/pub-g01450/pub/jsontext_internal_jsonwire.escapeASCII", laid_loop_example_pub_g01450_pub_jsontext_internal_jsonwire_escapeASCII), ("unicode/utf8.first", laid_unicode_utf8_first)], narrowed := true }
def FnNeedsEscapeByteUptoSaid : Prop := fnNeedsEscapeByteUptoRow.holds Tryd.pinned (OpenSpec.upto fnNeedsEscapeByteSpec)

/-- 'laws.FnCompareAscii', WHERE WHAT IT READS IS OF BULK AT MOST 1048576: true; the input reads as it did. -/
def fnCompareAsciiUptoRow : OpenClaim := { program := "ytldcoaigecnpfaadoor", sum := "ae9835fa486c32aae32d56d1412d33f3edc1e41c27c50257549da3ba17411a18", func := "loop.example/pub-g01450/laws.FnCompareAscii", spec := "fnCompareAscii", unfollowed := true, recurses := true, named := ["unicode/utf8.first", "unicode/utf8.acceptRanges"], apart := false, laid := [("unicode/utf8.acceptRanges", laid_unicode_utf8_acceptRanges), ("unicode/utf8.first", laid_unicode_utf8_first)], narrowed := true }
def FnCompareAsciiUptoSaid : Prop := fnCompareAsciiUptoRow.holds Tryd.pinned (OpenSpec.upto fnCompareAsciiSpec)

/-- 'laws.FnQuote', WHERE WHAT IT READS IS OF BULK AT MOST 1048576: true; the input reads as it did. -/
def fnQuoteUptoRow : OpenClaim := { program := "ytldcoaigecnpfaadoor", sum := "ae9835fa486c32aae32d56d1412d33f3edc1e41c27c50257549da3ba17411a18", func := "loop.example/pub-g01450/laws.FnQuote", spec := "fnQuote", named := ["loop.example/pub-g01450/pub/jsontext_internal_jsonwire.escapeASCII", "loop.example/pub-g01450/pub/jsontext_internal_jsonwire.ErrInvalidUTF8", "unicode/utf8.first", "unicode/utf8.acceptRanges"], ifaces := true, apart := false, laid := [("unicode/utf8.acceptRanges", laid_unicode_utf8_acceptRanges), ("loop.example/pub-g01450/pub/jsontext_internal_jsonwire.escapeASCII", laid_loop_example_pub_g01450_pub_jsontext_internal_jsonwire_escapeASCII), ("loop.example/pub-g01450/pub/jsontext_internal_jsonwire.ErrInvalidUTF8", laid_loop_example_pub_g01450_pub_jsontext_internal_jsonwire_ErrInvalidUTF8), ("unicode/utf8.first", laid_unicode_utf8_first)], narrowed := true }
def FnQuoteUptoSaid : Prop := fnQuoteUptoRow.holds Tryd.pinned (OpenSpec.upto fnQuoteSpec)

/-- 'laws.FnQuoteByte', WHERE WHAT IT READS IS OF BULK AT MOST 1048576: true; the input reads as it did. -/
def fnQuoteByteUptoRow : OpenClaim := { program := "ytldcoaigecnpfaadoor", sum := "ae9835fa486c32aae32d56d1412d33f3edc1e41c27c50257549da3ba17411a18", func := "loop.example/pub-g01450/laws.FnQuoteByte", spec := "fnQuoteByte", named := ["loop.example/pub-g01450/pub/jsontext_internal_jsonwire.escapeASCII", "loop.example/pub-g01450/pub/jsontext_internal_jsonwire.ErrInvalidUTF8", "unicode/utf8.first", "unicode/utf8.acceptRanges"], ifaces := true, apart := false, laid := [("unicode/utf8.acceptRanges", laid_unicode_utf8_acceptRanges), ("loop.example/pub-g01450/pub/jsontext_internal_jsonwire.escapeASCII", laid_loop_example_pub_g01450_pub_jsontext_internal_jsonwire_escapeASCII), ("loop.example/pub-g01450/pub/jsontext_internal_jsonwire.ErrInvalidUTF8", laid_loop_example_pub_g01450_pub_jsontext_internal_jsonwire_ErrInvalidUTF8), ("unicode/utf8.first", laid_unicode_utf8_first)], narrowed := true }
def FnQuoteByteUptoSaid : Prop := fnQuoteByteUptoRow.holds Tryd.pinned (OpenSpec.upto fnQuoteByteSpec)

/-- 'laws.FnQuoteJoin', WHERE WHAT IT READS IS OF BULK AT MOST 1048576: true; the input reads as it did. -/
def fnQuoteJoinUptoRow : OpenClaim := { program := "ytldcoaigecnpfaadoor", sum := "ae9835fa486c32aae32d56d1412d33f3edc1e41c27c50257549da3ba17411a18", func := "loop.example/pub-g01450/laws.FnQuoteJoin", spec := "fnQuoteJoin", named := ["loop.example/pub-g01450/pub/jsontext_internal_jsonwire.escapeASCII", "loop.example/pub-g01450/pub/jsontext_internal_jsonwire.ErrInvalidUTF8", "unicode/utf8.first", "unicode/utf8.acceptRanges"], ifaces := true, apart := false, laid := [("unicode/utf8.acceptRanges", laid_unicode_utf8_acceptRanges), ("loop.example/pub-g01450/pub/jsontext_internal_jsonwire.escapeASCII", laid_loop_example_pub_g01450_pub_jsontext_internal_jsonwire_escapeASCII), ("loop.example/pub-g01450/pub/jsontext_internal_jsonwire.ErrInvalidUTF8", laid_loop_example_pub_g01450_pub_jsontext_internal_jsonwire_ErrInvalidUTF8), ("unicode/utf8.first", laid_unicode_utf8_first)], narrowed := true }
def FnQuoteJoinUptoSaid : Prop := fnQuoteJoinUptoRow.holds Tryd.pinned (OpenSpec.upto fnQuoteJoinSpec)

/-- 'laws.FnThereAndBack', WHERE WHAT IT READS IS OF BULK AT MOST 1048576: true; the input reads as it did. -/
def fnThereAndBackUptoRow : OpenClaim := { program := "ytldcoaigecnpfaadoor", sum := "ae9835fa486c32aae32d56d1412d33f3edc1e41c27c50257549da3ba17411a18", func := "loop.example/pub-g01450/laws.FnThereAndBack", spec := "fnThereAndBack", unfollowed := true, recurses := true, named := ["loop.example/pub-g01450/pub/jsontext_internal_jsonwire.escapeASCII", "loop.example/pub-g01450/pub/jsontext_internal_jsonwire.ErrInvalidUTF8", "unicode/utf8.first", "unicode/utf8.acceptRanges", "io.ErrUnexpectedEOF"], ifaces := true, apart := false, laid := [("unicode/utf8.acceptRanges", laid_unicode_utf8_acceptRanges), ("io.ErrUnexpectedEOF", laid_io_ErrUnexpectedEOF), ("loop.example/pub-g01450/pub/jsontext_internal_jsonwire.escapeASCII", laid_loop_example_pub_g01450_pub_jsontext_internal_jsonwire_escapeASCII), ("loop.example/pub-g01450/pub/jsontext_internal_jsonwire.ErrInvalidUTF8", laid_loop_example_pub_g01450_pub_jsontext_internal_jsonwire_ErrInvalidUTF8), ("unicode/utf8.first", laid_unicode_utf8_first)], narrowed := true }
def FnThereAndBackUptoSaid : Prop := fnThereAndBackUptoRow.holds Tryd.pinned (OpenSpec.upto fnThereAndBackSpec)

/-- 'laws.FnStringAgain', WHERE WHAT IT READS IS OF BULK AT MOST 1048576: true; the input reads as it did. -/
def fnStringAgainUptoRow : OpenClaim := { program := "ytldcoaigecnpfaadoor", sum := "ae9835fa486c32aae32d56d1412d33f3edc1e41c27c50257549da3ba17411a18", func := "loop.example/pub-g01450/laws.FnStringAgain", spec := "fnStringAgain", unfollowed := true, recurses := true, named := ["io.ErrUnexpectedEOF", "loop.example/pub-g01450/pub/jsontext_internal_jsonwire.ErrInvalidUTF8", "unicode/utf8.first", "unicode/utf8.acceptRanges", "loop.example/pub-g01450/pub/jsontext_internal_jsonwire.escapeASCII"], ifaces := true, apart := false, laid := [("unicode/utf8.acceptRanges", laid_unicode_utf8_acceptRanges), ("io.ErrUnexpectedEOF", laid_io_ErrUnexpectedEOF), ("loop.example/pub-g01450/pub/jsontext_internal_jsonwire.escapeASCII", laid_loop_example_pub_g01450_pub_jsontext_internal_jsonwire_escapeASCII), ("loop.example/pub-g01450/pub/jsontext_internal_jsonwire.ErrInvalidUTF8", laid_loop_example_pub_g01450_pub_jsontext_internal_jsonwire_ErrInvalidUTF8), ("unicode/utf8.first", laid_unicode_utf8_first)], narrowed := true }
def FnStringAgainUptoSaid : Prop := fnStringAgainUptoRow.holds Tryd.pinned (OpenSpec.upto fnStringAgainSpec)

/-- 'laws.FnStringKept', WHERE WHAT IT READS IS OF BULK AT MOST 1048576: true; the input reads as it did. -/
def fnStringKeptUptoRow : OpenClaim := { program := "ytldcoaigecnpfaadoor", sum := "ae9835fa486c32aae32d56d1412d33f3edc1e41c27c50257549da3ba17411a18", func := "loop.example/pub-g01450/laws.FnStringKept", spec := "fnStringKept", unfollowed := true, recurses := true, named := ["io.ErrUnexpectedEOF", "loop.example/pub-g01450/pub/jsontext_internal_jsonwire.ErrInvalidUTF8", "unicode/utf8.first", "unicode/utf8.acceptRanges", "loop.example/pub-g01450/pub/jsontext_internal_jsonwire.escapeASCII"], ifaces := true, apart := false, laid := [("unicode/utf8.acceptRanges", laid_unicode_utf8_acceptRanges), ("io.ErrUnexpectedEOF", laid_io_ErrUnexpectedEOF), ("loop.example/pub-g01450/pub/jsontext_internal_jsonwire.escapeASCII", laid_loop_example_pub_g01450_pub_jsontext_internal_jsonwire_escapeASCII), ("loop.example/pub-g01450/pub/jsontext_internal_jsonwire.ErrInvalidUTF8", laid_loop_example_pub_g01450_pub_jsontext_internal_jsonwire_ErrInvalidUTF8), ("unicode/utf8.first", laid_unicode_utf8_first)], narrowed := true }
def FnStringKeptUptoSaid : Prop := fnStringKeptUptoRow.holds Tryd.pinned (OpenSpec.upto fnStringKeptSpec)

end Rows
end Go.Proofs.YtldcoaigecnpfaaDoor
