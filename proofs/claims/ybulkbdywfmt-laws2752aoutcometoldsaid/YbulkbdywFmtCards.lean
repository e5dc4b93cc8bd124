/-
  DERIVED. GIVEN WITH THE SEED: THE CARDS: each row of YbulkbdywFmtRows.lean that lists a variable, with what it lists TIED to the program's text (the seventh form; the later family's looks); each row that meets fmt, with fmt's text TOLD by the authors' own Lean function (tested against real Go, not proved from fmt's source: count such statements apart). THE CARD IS WHAT COUNTS. Prove the row's statement (the work); the ties are given (YbulkbdywFmtTie.lean); close each card by the builder's one call (the guide's Derived/Test/ToyasCard.lean, 'card_holds'). Laid BY PROGRAM, IN A SANDBOX (cutbox-door.mjs). By AI agents, Wed Nov 11 2026. No macro, syntax, notation, axiom, sorry.
-/
import Derived.Test.YbulkbdywFmtRows
import GoSem.ClaimSeven
namespace Go.Proofs.YbulkbdywFmt
namespace Rows

/-- THE TOLD AND TIED CARD OF 'stepfile.LawS2752AOutcome'. -/
def lawS2752AOutcomeCard : Claim7 := { stood := { row := lawS2752AOutcomeRow, standIns := [], harness := (true, "ccf92834f6b8b98802767422cda35e200985dccaab3f580ee70bfb852cc906e1"), looks := true }, told := true, laidByText := true, laidKinds := [.called], laidTests := true, laidLooks := .later, goes := false }
def LawS2752AOutcomeToldSaid : Prop := Claim7.holds Ybaf.pinned (.plain (OpenSpec.ofChange lawS2752AOutcomeSpec)) lawS2752AOutcomeCard
/-- ITS FALSE NEIGHBOUR. Refute it at one input. -/
def LawS2752AOutcomeToldWrongFalsely : Prop := Claim7.holds Ybaf.pinned (.plain (OpenSpec.ofChange lawS2752AOutcomeWrong)) lawS2752AOutcomeCard
end Rows
end Go.Proofs.YbulkbdywFmt
