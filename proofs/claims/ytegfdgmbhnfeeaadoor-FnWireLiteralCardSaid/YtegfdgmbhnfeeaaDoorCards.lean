/-
  DERIVED. GIVEN WITH THE SEED: THE CARDS: each row of YtegfdgmbhnfeeaaDoorRows.lean that lists a variable, with what it lists TIED to the program's text (the seventh form; the later family's looks); each row that meets fmt, with fmt's text TOLD by the authors' own Lean function (tested against real Go, not proved from fmt's source: count such statements apart). THE CARD IS WHAT COUNTS. Prove the row's statement (the work); the ties are given (YtegfdgmbhnfeeaaDoorTie.lean); close each card by the builder's one call (the guide's Derived/Test/ToyasCard.lean, 'card_holds'). Laid BY PROGRAM, IN A SANDBOX (cutbox-door.mjs). By AI agents, Wed Nov 11 2026. No macro, syntax, notation, axiom, sorry.
-/
import Derived.Test.YtegfdgmbhnfeeaaDoorRows
import GoSem.ClaimSeven
namespace Go.Proofs.YtegfdgmbhnfeeaaDoor
namespace Rows

/-- THE TIED CARD OF 'laws.FnWireLiteral'. -/
def fnWireLiteralCard : Claim7 := { stood := { row := fnWireLiteralRow, standIns := [], harness := (true, "9ae0bcb795fdad2ff60a711635acbf8a06f598d62d3951b971a32bc419fa0296"), looks := true }, kinds := [], alts := [], laidByText := true, laidKinds := [.data, .sentinel, .pinned], laidTests := true, laidLooks := .later }
def FnWireLiteralCardSaid : Prop := Claim7.holds Tryd.pinned (.plain (OpenSpec.ofChange fnWireLiteralSpec)) fnWireLiteralCard

/-- THE SECOND FORM's CARD OF 'laws.FnWireLiteral'. -/
def fnWireLiteralUptoCard : Claim7 := { stood := { row := fnWireLiteralUptoRow, standIns := [], harness := (true, "9ae0bcb795fdad2ff60a711635acbf8a06f598d62d3951b971a32bc419fa0296"), looks := true }, kinds := [], alts := [], laidByText := true, laidKinds := [.data, .sentinel, .pinned], laidTests := true, laidLooks := .later }
def FnWireLiteralUptoCardSaid : Prop := Claim7.holds Tryd.pinned (.plain (OpenSpec.upto fnWireLiteralSpec)) fnWireLiteralUptoCard
end Rows
end Go.Proofs.YtegfdgmbhnfeeaaDoor
