/-
  DERIVED. GIVEN WITH THE SEED: THE CARDS: each row of YbulkbdskDoorRows.lean that lists a variable, with what it lists TIED to the program's text (the seventh form; the later family's looks); each row that meets fmt, with fmt's text TOLD by the authors' own Lean function (tested against real Go, not proved from fmt's source: count such statements apart). THE CARD IS WHAT COUNTS. Prove the row's statement (the work); the ties are given (YbulkbdskDoorTie.lean); close each card by the builder's one call (the guide's Derived/Test/ToyasCard.lean, 'card_holds'). Laid BY PROGRAM, IN A SANDBOX (cutbox-door.mjs). By AI agents, Wed Nov 11 2026. No macro, syntax, notation, axiom, sorry.
-/
import Derived.Test.YbulkbdskDoorRows
import GoSem.ClaimSeven
namespace Go.Proofs.YbulkbdskDoor
namespace Rows

/-- THE TIED CARD OF 'tracker.LawS2740CScript'. -/
def lawS2740CScriptCard : Claim7 := { stood := { row := lawS2740CScriptRow, standIns := [], harness := (true, "a733446fd735721778118e20ce9f7bf1eb4e1162a0a41d178ec0a658739eb99a"), looks := false }, kinds := [], alts := [], laidByText := true, laidKinds := [.called, .called, .zero], laidTests := true, laidLooks := .later }
def LawS2740CScriptCardSaid : Prop := Claim7.holds Ybad.pinned (.plain (OpenSpec.ofChange lawS2740CScriptSpec)) lawS2740CScriptCard
end Rows
end Go.Proofs.YbulkbdskDoor
