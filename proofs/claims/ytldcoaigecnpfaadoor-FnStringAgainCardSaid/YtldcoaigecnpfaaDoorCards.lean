/-
  DERIVED. GIVEN WITH THE SEED: THE CARDS: each row of YtldcoaigecnpfaaDoorRows.lean that lists a variable, with what it lists TIED to the program's text (the seventh form; the later family's looks); each row that meets fmt, with fmt's text TOLD by the authors' own Lean function (tested against real Go, not proved from fmt's source: count such statements apart). THE CARD IS WHAT COUNTS. Prove the row's statement (the work); the ties are given (YtldcoaigecnpfaaDoorTie.lean); close each card by the builder's one call (the guide's Derived/Test/ToyasCard.lean, 'card_holds'). Laid BY PROGRAM, IN A SANDBOX (cutbox-door.mjs). By AI agents, Wed Nov 11 2026. No macro, syntax, notation, axiom, sorry.
-/
import Derived.Test.YtldcoaigecnpfaaDoorRows
import GoSem.ClaimSeven
namespace Go.Proofs.YtldcoaigecnpfaaDoor
namespace Rows

/-- THE TIED CARD OF 'laws.FnNeedsEscapeByte'. -/
def fnNeedsEscapeByteCard : Claim7 := { stood := { row := fnNeedsEscapeByteRow, standIns := [], harness := (true, "c9f373f3706639de2f7db101bd9c21070fcf57247f7d75d846ac07889eead596"), looks := false }, kinds := [], alts := [], laidByText := true, laidKinds := [.data, .data, .pinned], laidTests := true, laidLooks := .later }
def FnNeedsEscapeByteCardSaid : Prop := Claim7.holds Tryd.pinned (.plain (OpenSpec.ofChange fnNeedsEscapeByteSpec)) fnNeedsEscapeByteCard

/-- THE TIED CARD OF 'laws.FnCompareAscii'. -/
def fnCompareAsciiCard : Claim7 := { stood := { row := fnCompareAsciiRow, standIns := [], harness := (true, "c9f373f3706639de2f7db101bd9c21070fcf57247f7d75d846ac07889eead596"), looks := false }, kinds := [], alts := [], laidByText := true, laidKinds := [.data, .pinned], laidTests := true, laidLooks := .later }
def FnCompareAsciiCardSaid : Prop := Claim7.holds Tryd.pinned (.plain (OpenSpec.ofChange fnCompareAsciiSpec)) fnCompareAsciiCard

/-- THE TIED CARD OF 'laws.FnQuote'. -/
def fnQuoteCard : Claim7 := { stood := { row := fnQuoteRow, standIns := [], harness := (true, "c9f373f3706639de2f7db101bd9c21070fcf57247f7d75d846ac07889eead596"), looks := false }, kinds := [], alts := [], laidByText := true, laidKinds := [.data, .data, .sentinel, .pinned], laidTests := true, laidLooks := .later }
def FnQuoteCardSaid : Prop := Claim7.holds Tryd.pinned (.plain (OpenSpec.ofChange fnQuoteSpec)) fnQuoteCard

/-- THE TIED CARD OF 'laws.FnQuoteByte'. -/
def fnQuoteByteCard : Claim7 := { stood := { row := fnQuoteByteRow, standIns := [], harness := (true, "c9f373f3706639de2f7db101bd9c21070fcf57247f7d75d846ac07889eead596"), looks := false }, kinds := [], alts := [], laidByText := true, laidKinds := [.data, .data, .sentinel, .pinned], laidTests := true, laidLooks := .later }
def FnQuoteByteCardSaid : Prop := Claim7.holds Tryd.pinned (.plain (OpenSpec.ofChange fnQuoteByteSpec)) fnQuoteByteCard

/-- THE TIED CARD OF 'laws.FnQuoteJoin'. -/
def fnQuoteJoinCard : Claim7 := { stood := { row := fnQuoteJoinRow, standIns := [], harness := (true, "c9f373f3706639de2f7db101bd9c21070fcf57247f7d75d846ac07889eead596"), looks := false }, kinds := [], alts := [], laidByText := true, laidKinds := [.data, .data, .sentinel, .pinned], laidTests := true, laidLooks := .later }
def FnQuoteJoinCardSaid : Prop := Claim7.holds Tryd.pinned (.plain (OpenSpec.ofChange fnQuoteJoinSpec)) fnQuoteJoinCard

/-- THE TIED CARD OF 'laws.FnThereAndBack'. -/
def fnThereAndBackCard : Claim7 := { stood := { row := fnThereAndBackRow, standIns := [], harness := (true, "c9f373f3706639de2f7db101bd9c21070fcf57247f7d75d846ac07889eead596"), looks := false }, kinds := [], alts := [], laidByText := true, laidKinds := [.data, .sentinel, .data, .sentinel, .pinned], laidTests := true, laidLooks := .later }
def FnThereAndBackCardSaid : Prop := Claim7.holds Tryd.pinned (.plain (OpenSpec.ofChange fnThereAndBackSpec)) fnThereAndBackCard

/-- THE TIED CARD OF 'laws.FnStringAgain'. -/
def fnStringAgainCard : Claim7 := { stood := { row := fnStringAgainRow, standIns := [], harness := (true, "c9f373f3706639de2f7db101bd9c21070fcf57247f7d75d846ac07889eead596"), looks := false }, kinds := [], alts := [], laidByText := true, laidKinds := [.data, .sentinel, .data, .sentinel, .pinned], laidTests := true, laidLooks := .later }
def FnStringAgainCardSaid : Prop := Claim7.holds Tryd.pinned (.plain (OpenSpec.ofChange fnStringAgainSpec)) fnStringAgainCard

/-- THE TIED CARD OF 'laws.FnStringKept'. -/
def fnStringKeptCard : Claim7 := { stood := { row := fnStringKeptRow, standIns := [], harness := (true, "c9f373f3706639de2f7db101bd9c21070fcf57247f7d75d846ac07889eead596"), looks := false }, kinds := [], alts := [], laidByText := true, laidKinds := [.data, .sentinel, .data, .sentinel, .pinned], laidTests := true, laidLooks := .later }
def FnStringKeptCardSaid : Prop := Claim7.holds Tryd.pinned (.plain (OpenSpec.ofChange fnStringKeptSpec)) fnStringKeptCard

/-- THE SECOND FORM's CARD OF 'laws.FnNeedsEscapeByte'. -/
def fnNeedsEscapeByteUptoCard : Claim7 := { stood := { row := fnNeedsEscapeByteUptoRow, standIns := [], harness := (true, "c9f373f3706639de2f7db101bd9c21070fcf57247f7d75d846ac07889eead596"), looks := false }, kinds := [], alts := [], laidByText := true, laidKinds := [.data, .data, .pinned], laidTests := true, laidLooks := .later }
def FnNeedsEscapeByteUptoCardSaid : Prop := Claim7.holds Tryd.pinned (.plain (OpenSpec.upto fnNeedsEscapeByteSpec)) fnNeedsEscapeByteUptoCard

/-- THE SECOND FORM's CARD OF 'laws.FnCompareAscii'. -/
def fnCompareAsciiUptoCard : Claim7 := { stood := { row := fnCompareAsciiUptoRow, standIns := [], harness := (true, "c9f373f3706639de2f7db101bd9c21070fcf57247f7d75d846ac07889eead596"), looks := false }, kinds := [], alts := [], laidByText := true, laidKinds := [.data, .pinned], laidTests := true, laidLooks := .later }
def FnCompareAsciiUptoCardSaid : Prop := Claim7.holds Tryd.pinned (.plain (OpenSpec.upto fnCompareAsciiSpec)) fnCompareAsciiUptoCard

/-- THE SECOND FORM's CARD OF 'laws.FnQuote'. -/
def fnQuoteUptoCard : Claim7 := { stood := { row := fnQuoteUptoRow, standIns := [], harness := (true, "c9f373f3706639de2f7db101bd9c21070fcf57247f7d75d846ac07889eead596"), looks := false }, kinds := [], alts := [], laidByText := true, laidKinds := [.data, .data, .sentinel, .pinned], laidTests := true, laidLooks := .later }
def FnQuoteUptoCardSaid : Prop := Claim7.holds Tryd.pinned (.plain (OpenSpec.upto fnQuoteSpec)) fnQuoteUptoCard

/-- THE SECOND FORM's CARD OF 'laws.FnQuoteByte'. -/
def fnQuoteByteUptoCard : Claim7 := { stood := { row := fnQuoteByteUptoRow, standIns := [], harness := (true, "c9f373f3706639de2f7db101bd9c21070fcf57247f7d75d846ac07889eead596"), looks := false }, kinds := [], alts := [], laidByText := true, laidKinds := [.data, .data, .sentinel, .pinned], laidTests := true, laidLooks := .later }
def FnQuoteByteUptoCardSaid : Prop := Claim7.holds Tryd.pinned (.plain (OpenSpec.upto fnQuoteByteSpec)) fnQuoteByteUptoCard

/-- THE SECOND FORM's CARD OF 'laws.FnQuoteJoin'. -/
def fnQuoteJoinUptoCard : Claim7 := { stood := { row := fnQuoteJoinUptoRow, standIns := [], harness := (true, "c9f373f3706639de2f7db101bd9c21070fcf57247f7d75d846ac07889eead596"), looks := false }, kinds := [], alts := [], laidByText := true, laidKinds := [.data, .data, .sentinel, .pinned], laidTests := true, laidLooks := .later }
def FnQuoteJoinUptoCardSaid : Prop := Claim7.holds Tryd.pinned (.plain (OpenSpec.upto fnQuoteJoinSpec)) fnQuoteJoinUptoCard

/-- THE SECOND FORM's CARD OF 'laws.FnThereAndBack'. -/
def fnThereAndBackUptoCard : Claim7 := { stood := { row := fnThereAndBackUptoRow, standIns := [], harness := (true, "c9f373f3706639de2f7db101bd9c21070fcf57247f7d75d846ac07889eead596"), looks := false }, kinds := [], alts := [], laidByText := true, laidKinds := [.data, .sentinel, .data, .sentinel, .pinned], laidTests := true, laidLooks := .later }
def FnThereAndBackUptoCardSaid : Prop := Claim7.holds Tryd.pinned (.plain (OpenSpec.upto fnThereAndBackSpec)) fnThereAndBackUptoCard

/-- THE SECOND FORM's CARD OF 'laws.FnStringAgain'. -/
def fnStringAgainUptoCard : Claim7 := { stood := { row := fnStringAgainUptoRow, standIns := [], harness := (true, "c9f373f3706639de2f7db101bd9c21070fcf57247f7d75d846ac07889eead596"), looks := false }, kinds := [], alts := [], laidByText := true, laidKinds := [.data, .sentinel, .data, .sentinel, .pinned], laidTests := true, laidLooks := .later }
def FnStringAgainUptoCardSaid : Prop := Claim7.holds Tryd.pinned (.plain (OpenSpec.upto fnStringAgainSpec)) fnStringAgainUptoCard

/-- THE SECOND FORM's CARD OF 'laws.FnStringKept'. -/
def fnStringKeptUptoCard : Claim7 := { stood := { row := fnStringKeptUptoRow, standIns := [], harness := (true, "c9f373f3706639de2f7db101bd9c21070fcf57247f7d75d846ac07889eead596"), looks := false }, kinds := [], alts := [], laidByText := true, laidKinds := [.data, .sentinel, .data, .sentinel, .pinned], laidTests := true, laidLooks := .later }
def FnStringKeptUptoCardSaid : Prop := Claim7.holds Tryd.pinned (.plain (OpenSpec.upto fnStringKeptSpec)) fnStringKeptUptoCard
end Rows
end Go.Proofs.YtldcoaigecnpfaaDoor
