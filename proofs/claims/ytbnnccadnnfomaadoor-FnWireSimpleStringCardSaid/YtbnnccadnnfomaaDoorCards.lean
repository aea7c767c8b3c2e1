/-
  DERIVED. GIVEN WITH THE SEED: THE CARDS: each row of YtbnnccadnnfomaaDoorRows.lean that lists a variable, with what it lists TIED to the program's text (the seventh form; the later family's looks); each row that meets fmt, with fmt's text TOLD by the authors' own Lean function (tested against real Go, not proved from fmt's source: count such statements apart). THE CARD IS WHAT COUNTS. Prove the row's statement (the work); the ties are given (YtbnnccadnnfomaaDoorTie.lean); close each card by the builder's one call (the guide's Derived/Test/ToyasCard.lean, 'card_holds'). Laid BY PROGRAM, IN A SANDBOX (cutbox-door.mjs). By AI agents, Wed Nov 11 2026. No macro, syntax, notation, axiom, sorry.
-/
import Derived.Test.YtbnnccadnnfomaaDoorRows
import GoSem.ClaimSeven
namespace Go.Proofs.YtbnnccadnnfomaaDoor
namespace Rows

/-- THE TIED CARD OF 'laws.FnWireSimpleString'. -/
def fnWireSimpleStringCard : Claim7 := { stood := { row := fnWireSimpleStringRow, standIns := [], harness := (true, "4d4bef4bf5bc7d4c49f9dddc24309c216e144989cabfbc2ef8269f4e14af28bb"), looks := false }, kinds := [], alts := [], laidByText := true, laidKinds := [.data], laidTests := true, laidLooks := .later }
def FnWireSimpleStringCardSaid : Prop := Claim7.holds Tryd.pinned (.plain (OpenSpec.ofChange fnWireSimpleStringSpec)) fnWireSimpleStringCard

/-- THE SECOND FORM's CARD OF 'laws.FnWireSimpleString'. -/
def fnWireSimpleStringUptoCard : Claim7 := { stood := { row := fnWireSimpleStringUptoRow, standIns := [], harness := (true, "4d4bef4bf5bc7d4c49f9dddc24309c216e144989cabfbc2ef8269f4e14af28bb"), looks := false }, kinds := [], alts := [], laidByText := true, laidKinds := [.data], laidTests := true, laidLooks := .later }
def FnWireSimpleStringUptoCardSaid : Prop := Claim7.holds Tryd.pinned (.plain (OpenSpec.upto fnWireSimpleStringSpec)) fnWireSimpleStringUptoCard
end Rows
end Go.Proofs.YtbnnccadnnfomaaDoor
