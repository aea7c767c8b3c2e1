/-
  DERIVED. GIVEN WITH THE SEED: THE CARDS: each row of YtklncgmfbflooaaDoorRows.lean that lists a variable, with what it lists TIED to the program's text (the seventh form; the later family's looks); each row that meets fmt, with fmt's text TOLD by the authors' own Lean function (tested against real Go, not proved from fmt's source: count such statements apart). THE CARD IS WHAT COUNTS. Prove the row's statement (the work); the ties are given (YtklncgmfbflooaaDoorTie.lean); close each card by the builder's one call (the guide's Derived/Test/ToyasCard.lean, 'card_holds'). Laid BY PROGRAM, IN A SANDBOX (cutbox-door.mjs). By AI agents, Wed Nov 11 2026. No macro, syntax, notation, axiom, sorry.
-/
import Derived.Test.YtklncgmfbflooaaDoorRows
import GoSem.ClaimSeven
namespace Go.Proofs.YtklncgmfbflooaaDoor
namespace Rows

/-- THE TIED CARD OF 'laws.FnOldEscape'. -/
def fnOldEscapeCard : Claim7 := { stood := { row := fnOldEscapeRow, standIns := [], harness := (true, "82bdd957cd7b9d34fbffb67f4be3ddfcfa61b9c2f011d281819355388cce4d0a"), looks := true }, kinds := [], alts := [], laidByText := true, laidKinds := [.sentinel], laidTests := true, laidLooks := .later }
def FnOldEscapeCardSaid : Prop := Claim7.holds Tryd.pinned (.plain (OpenSpec.ofChange fnOldEscapeSpec)) fnOldEscapeCard

/-- THE TIED CARD OF 'laws.FnOldQuoteSafe'. -/
def fnOldQuoteSafeCard : Claim7 := { stood := { row := fnOldQuoteSafeRow, standIns := [], harness := (true, "82bdd957cd7b9d34fbffb67f4be3ddfcfa61b9c2f011d281819355388cce4d0a"), looks := true }, kinds := [], alts := [], laidByText := true, laidKinds := [.data, .data, .data, .pinned], laidTests := true, laidLooks := .later }
def FnOldQuoteSafeCardSaid : Prop := Claim7.holds Tryd.pinned (.plain (OpenSpec.ofChange fnOldQuoteSafeSpec)) fnOldQuoteSafeCard

/-- THE TIED CARD OF 'laws.FnOldUnquote'. -/
def fnOldUnquoteCard : Claim7 := { stood := { row := fnOldUnquoteRow, standIns := [], harness := (true, "82bdd957cd7b9d34fbffb67f4be3ddfcfa61b9c2f011d281819355388cce4d0a"), looks := true }, kinds := [], alts := [], laidByText := true, laidKinds := [.data, .pinned], laidTests := true, laidLooks := .later }
def FnOldUnquoteCardSaid : Prop := Claim7.holds Tryd.pinned (.plain (OpenSpec.ofChange fnOldUnquoteSpec)) fnOldUnquoteCard

/-- THE TIED CARD OF 'laws.FnOldPlaces'. -/
def fnOldPlacesCard : Claim7 := { stood := { row := fnOldPlacesRow, standIns := [], harness := (true, "82bdd957cd7b9d34fbffb67f4be3ddfcfa61b9c2f011d281819355388cce4d0a"), looks := true }, kinds := [], alts := [], laidByText := true, laidKinds := [.sentinel], laidTests := true, laidLooks := .later }
def FnOldPlacesCardSaid : Prop := Claim7.holds Tryd.pinned (.plain (OpenSpec.ofChange fnOldPlacesSpec)) fnOldPlacesCard

/-- THE TIED CARD OF 'laws.FnOldBuffers'. -/
def fnOldBuffersCard : Claim7 := { stood := { row := fnOldBuffersRow, standIns := [], harness := (true, "82bdd957cd7b9d34fbffb67f4be3ddfcfa61b9c2f011d281819355388cce4d0a"), looks := true }, kinds := [], alts := [], laidByText := true, laidKinds := [.sentinel], laidTests := true, laidLooks := .later }
def FnOldBuffersCardSaid : Prop := Claim7.holds Tryd.pinned (.plain (OpenSpec.ofChange fnOldBuffersSpec)) fnOldBuffersCard

/-- THE SECOND FORM's CARD OF 'laws.FnOldEscape'. -/
def fnOldEscapeUptoCard : Claim7 := { stood := { row := fnOldEscapeUptoRow, standIns := [], harness := (true, "82bdd957cd7b9d34fbffb67f4be3ddfcfa61b9c2f011d281819355388cce4d0a"), looks := true }, kinds := [], alts := [], laidByText := true, laidKinds := [.sentinel], laidTests := true, laidLooks := .later }
def FnOldEscapeUptoCardSaid : Prop := Claim7.holds Tryd.pinned (.plain (OpenSpec.upto fnOldEscapeSpec)) fnOldEscapeUptoCard

/-- THE SECOND FORM's CARD OF 'laws.FnOldQuoteSafe'. -/
def fnOldQuoteSafeUptoCard : Claim7 := { stood := { row := fnOldQuoteSafeUptoRow, standIns := [], harness := (true, "82bdd957cd7b9d34fbffb67f4be3ddfcfa61b9c2f011d281819355388cce4d0a"), looks := true }, kinds := [], alts := [], laidByText := true, laidKinds := [.data, .data, .data, .pinned], laidTests := true, laidLooks := .later }
def FnOldQuoteSafeUptoCardSaid : Prop := Claim7.holds Tryd.pinned (.plain (OpenSpec.upto fnOldQuoteSafeSpec)) fnOldQuoteSafeUptoCard

/-- THE SECOND FORM's CARD OF 'laws.FnOldUnquote'. -/
def fnOldUnquoteUptoCard : Claim7 := { stood := { row := fnOldUnquoteUptoRow, standIns := [], harness := (true, "82bdd957cd7b9d34fbffb67f4be3ddfcfa61b9c2f011d281819355388cce4d0a"), looks := true }, kinds := [], alts := [], laidByText := true, laidKinds := [.data, .pinned], laidTests := true, laidLooks := .later }
def FnOldUnquoteUptoCardSaid : Prop := Claim7.holds Tryd.pinned (.plain (OpenSpec.upto fnOldUnquoteSpec)) fnOldUnquoteUptoCard

/-- THE SECOND FORM's CARD OF 'laws.FnOldPlaces'. -/
def fnOldPlacesUptoCard : Claim7 := { stood := { row := fnOldPlacesUptoRow, standIns := [], harness := (true, "82bdd957cd7b9d34fbffb67f4be3ddfcfa61b9c2f011d281819355388cce4d0a"), looks := true }, kinds := [], alts := [], laidByText := true, laidKinds := [.sentinel], laidTests := true, laidLooks := .later }
def FnOldPlacesUptoCardSaid : Prop := Claim7.holds Tryd.pinned (.plain (OpenSpec.upto fnOldPlacesSpec)) fnOldPlacesUptoCard

/-- THE SECOND FORM's CARD OF 'laws.FnOldBuffers'. -/
def fnOldBuffersUptoCard : Claim7 := { stood := { row := fnOldBuffersUptoRow, standIns := [], harness := (true, "82bdd957cd7b9d34fbffb67f4be3ddfcfa61b9c2f011d281819355388cce4d0a"), looks := true }, kinds := [], alts := [], laidByText := true, laidKinds := [.sentinel], laidTests := true, laidLooks := .later }
def FnOldBuffersUptoCardSaid : Prop := Claim7.holds Tryd.pinned (.plain (OpenSpec.upto fnOldBuffersSpec)) fnOldBuffersUptoCard
end Rows
end Go.Proofs.YtklncgmfbflooaaDoor
