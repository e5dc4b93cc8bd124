/-
  NARROWER THAN 'FOR EVERY INPUT', by the rows' own cells (each row's printed sentence says how): LawS2752AOutcome: ifaces, laid.
  DERIVED. THE GIVEN ROWS OF THIS SEAT. 1 by the template 'for every input the law returns true; each argument reads behind the call as it read before'; 0 by the template 'total and deterministic' (their statements: YbulkbdywFmtTotals.lean).
  GIVEN WITH THE SEED: the statements are not yours to turn. If you find one false, say at which input.
  Laid BY PROGRAM, IN A SANDBOX (cutbox-rows.mjs): the forced cells as the released guide's own fill.sh prints them over the translation a521cec2ba57b6b0… (all of the seat's roots in one cut). By AI agents, Wed Nov 11 2026. No macro, syntax, notation, axiom, sorry.
-/
import Derived.Test.YbulkbdywFmtChecked
import GoSem.Claim
import GoSem.ClaimJoined
import GoSem.ClaimMapViews
import Derived.JoinedTies
import Derived.KernelRfl
namespace Go.Proofs.YbulkbdywFmt
/- THE CELL 'sum', in the pinned program and in every row, IS THE sha256 OF THE DUMP (.gsa) THAT YbulkbdywFmtProg.lean LOADS. Nothing in Lean hashes anything: it is a label: what it is worth is what the hold of that sum in a sandbox is worth. -/
noncomputable def Ybaf.pinned : Pinned := { name := "ybulkbdywfmt", sum := "a521cec2ba57b6b0c1d3afd0059822dedb1893f74a4a6d9a16b6c4e909ad308c", checked := Ybaf.checked }
namespace Rows
def none {H : Type} : Left H := { results := [], args := [] }

/- WHAT THE LISTED PACKAGE-LEVEL VARIABLES READ AS WHEN THE CALL BEGINS. Each datum BY PROGRAM (the guide's laid-datum.mjs) off the statement by which the dump's own 'gosem.cut.vars' lays the variable. In a bare row this is a premise. The card (YbulkbdywFmtCards.lean) ties it to the program's text. -/
def laid_example_com_headward_headward_internal_stepfile_errNoBrace {H : Type} : DataW H := .iface "*errors.errorString" (.ptr (.agg [.lit (.string [105, 116, 32, 100, 111, 101, 115, 32, 110, 111, 116, 32, 115, 116, 97, 114, 116, 32, 119, 105, 116, 104, 32, 123])]))

/-- 'stepfile.LawS2752AOutcome': WHATEVER THE INPUT: true; the input reads as it did. -/
def lawS2752AOutcomeSpec : ChangeSpec := { name := "lawS2752AOutcome", vars := ["example.com/headward/headward/internal/stepfile.errNoBrace"], fn := fun _ => fun
  | [d1, d2, d3, d4, d5, d6, d7, d8, g1] => { results := [.lit (.bool true)], args := [d1, d2, d3, d4, d5, d6, d7, d8], vars := [g1] }
  | _ => none }
def lawS2752AOutcomeRow : OpenClaim := { program := "ybulkbdywfmt", sum := "a521cec2ba57b6b0c1d3afd0059822dedb1893f74a4a6d9a16b6c4e909ad308c", func := "example.com/headward/headward/internal/stepfile.LawS2752AOutcome", spec := "lawS2752AOutcome", stops := ["fmt.errorf"], inPlace := ["fmt.errorf", "internal/reflectlite.TypeOf"], unfollowed := true, recurses := true, named := ["example.com/headward/headward/internal/stepfile.errNoBrace"], ifaces := true, apart := false, laid := [("example.com/headward/headward/internal/stepfile.errNoBrace", laid_example_com_headward_headward_internal_stepfile_errNoBrace)] }
/-- NO THEOREM (fmt's text is open here; it may be false): for the released tool's asking of the row's closed facts alone. THE STATEMENT IS 'LawS2752AOutcomeToldSaid' (YbulkbdywFmtCards.lean). -/
def LawS2752AOutcomeFormAsk : Prop := lawS2752AOutcomeRow.holds Ybaf.pinned (OpenSpec.ofChange lawS2752AOutcomeSpec)

/-- ITS FALSE NEIGHBOUR: 'it returns false'. Refute it at one input. -/
def lawS2752AOutcomeWrong : ChangeSpec := { name := "lawS2752AOutcome", vars := ["example.com/headward/headward/internal/stepfile.errNoBrace"], fn := fun _ => fun
  | [d1, d2, d3, d4, d5, d6, d7, d8, g1] => { results := [.lit (.bool false)], args := [d1, d2, d3, d4, d5, d6, d7, d8], vars := [g1] }
  | _ => none }
def LawS2752AOutcomeWrongFormAsk : Prop := lawS2752AOutcomeRow.holds Ybaf.pinned (OpenSpec.ofChange lawS2752AOutcomeWrong)

end Rows
end Go.Proofs.YbulkbdywFmt
