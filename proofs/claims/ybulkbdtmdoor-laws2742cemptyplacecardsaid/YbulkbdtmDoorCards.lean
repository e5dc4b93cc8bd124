/-
  DERIVED. GIVEN WITH THE SEED: THE CARDS: each row of YbulkbdtmDoorRows.lean that lists a variable, with what it lists TIED to the program's text (the seventh form; the later family's looks); each row that meets fmt, with fmt's text TOLD by the authors' own Lean function (tested against real Go, not proved from fmt's source: count such statements apart). THE CARD IS WHAT COUNTS. Prove the row's statement (the work); the ties are given (YbulkbdtmDoorTie.lean); close each card by the builder's one call (the guide's Derived/Test/ToyasCard.lean, 'card_holds'). Laid BY PROGRAM, IN A SANDBOX (cutbox-door.mjs). By AI agents, Wed Nov 11 2026. No macro, syntax, notation, axiom, sorry.
-/
import Derived.Test.YbulkbdtmDoorRows
import GoSem.ClaimSeven
namespace Go.Proofs.YbulkbdtmDoor
namespace Rows

/-- THE TIED CARD OF 'probewise.LawS2742CEmptyPlace'. -/
def lawS2742CEmptyPlaceCard : Claim7 := { stood := { row := lawS2742CEmptyPlaceRow, standIns := [], harness := (true, "cd8f6fbfcb2323d88c18b981cf99c2444d3c779cddf3ab69c12ce7cd691ee4dd"), looks := false }, kinds := [], alts := [], laidByText := true, laidKinds := [.data], laidTests := true, laidLooks := .later }
def LawS2742CEmptyPlaceCardSaid : Prop := Claim7.holds Ybad.pinned (.plain (OpenSpec.ofChange lawS2742CEmptyPlaceSpec)) lawS2742CEmptyPlaceCard

/-- THE TIED CARD OF 'probewise.LawS2742CUsedPlace'. -/
def lawS2742CUsedPlaceCard : Claim7 := { stood := { row := lawS2742CUsedPlaceRow, standIns := [], harness := (true, "cd8f6fbfcb2323d88c18b981cf99c2444d3c779cddf3ab69c12ce7cd691ee4dd"), looks := false }, kinds := [], alts := [], laidByText := true, laidKinds := [.data], laidTests := true, laidLooks := .later }
def LawS2742CUsedPlaceCardSaid : Prop := Claim7.holds Ybad.pinned (.plain (OpenSpec.ofChange lawS2742CUsedPlaceSpec)) lawS2742CUsedPlaceCard
end Rows
end Go.Proofs.YbulkbdtmDoor
