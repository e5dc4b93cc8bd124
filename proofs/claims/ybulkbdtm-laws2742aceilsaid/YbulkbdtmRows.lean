/-
  No cell of these rows narrows 'for every input' (looked for: loops, veiled, ifaces, maps, wideKeys, modest, calm, conditions, laid).
  DERIVED. THE GIVEN ROWS OF THIS SEAT. 4 by the template 'for every input the law returns true; each argument reads behind the call as it read before'; 0 by the template 'total and deterministic' (their statements: YbulkbdtmTotals.lean).
  GIVEN WITH THE SEED: the statements are not yours to turn. If you find one false, say at which input.
  Laid BY PROGRAM, IN A SANDBOX (cutbox-rows.mjs): the forced cells as the released guide's own fill.sh prints them over the translation 56b23067ae80ca8d… (all of the seat's roots in one cut). By AI agents, Wed Nov 11 2026. No macro, syntax, notation, axiom, sorry.
-/
import Derived.Test.YbulkbdtmChecked
import GoSem.Claim
import GoSem.ClaimJoined
import GoSem.ClaimMapViews
import Derived.JoinedTies
import Derived.KernelRfl
namespace Go.Proofs.Ybulkbdtm
/- THE CELL 'sum', in the pinned program and in every row, IS THE sha256 OF THE DUMP (.gsa) THAT YbulkbdtmProg.lean LOADS. Nothing in Lean hashes anything: it is a label: what it is worth is what the hold of that sum in a sandbox is worth. -/
noncomputable def Yba.pinned : Pinned := { name := "ybulkbdtm", sum := "56b23067ae80ca8d22e3e46309ccfac9e8a592c0e7d525cd7f1fb9d976276d15", checked := Yba.checked }
namespace Rows
def none {H : Type} : Left H := { results := [], args := [] }

/-- 'probewise.LawS2742ACeil': WHATEVER THE INPUT: true; the input reads as it did. -/
def lawS2742ACeilSpec : ChangeSpec := { name := "lawS2742ACeil", fn := fun _ => fun
  | [d1, d2, d3, d4] => { results := [.lit (.bool true)], args := [d1, d2, d3, d4] }
  | _ => none }
def lawS2742ACeilRow : OpenClaim := { program := "ybulkbdtm", sum := "56b23067ae80ca8d22e3e46309ccfac9e8a592c0e7d525cd7f1fb9d976276d15", func := "example.com/probewise/probewise.LawS2742ACeil", spec := "lawS2742ACeil", inPlace := ["math/bits.Add64"], named := ["math/bits.divideError", "math/bits.overflowError"], apart := false }
def LawS2742ACeilSaid : Prop := lawS2742ACeilRow.holds Yba.pinned (OpenSpec.ofChange lawS2742ACeilSpec)

/-- ITS FALSE NEIGHBOUR: 'it returns false'. Refute it at one input. -/
def lawS2742ACeilWrong : ChangeSpec := { name := "lawS2742ACeil", fn := fun _ => fun
  | [d1, d2, d3, d4] => { results := [.lit (.bool false)], args := [d1, d2, d3, d4] }
  | _ => none }
def LawS2742ACeilWrongFalsely : Prop := lawS2742ACeilRow.holds Yba.pinned (OpenSpec.ofChange lawS2742ACeilWrong)

/-- 'probewise.LawS2742AOrder': WHATEVER THE INPUT: true; the input reads as it did. -/
def lawS2742AOrderSpec : ChangeSpec := { name := "lawS2742AOrder", fn := fun _ => fun
  | [d1, d2, d3, d4] => { results := [.lit (.bool true)], args := [d1, d2, d3, d4] }
  | _ => none }
def lawS2742AOrderRow : OpenClaim := { program := "ybulkbdtm", sum := "56b23067ae80ca8d22e3e46309ccfac9e8a592c0e7d525cd7f1fb9d976276d15", func := "example.com/probewise/probewise.LawS2742AOrder", spec := "lawS2742AOrder", named := ["math/bits.divideError", "math/bits.overflowError"], apart := false }
def LawS2742AOrderSaid : Prop := lawS2742AOrderRow.holds Yba.pinned (OpenSpec.ofChange lawS2742AOrderSpec)

/-- ITS FALSE NEIGHBOUR: 'it returns false'. Refute it at one input. -/
def lawS2742AOrderWrong : ChangeSpec := { name := "lawS2742AOrder", fn := fun _ => fun
  | [d1, d2, d3, d4] => { results := [.lit (.bool false)], args := [d1, d2, d3, d4] }
  | _ => none }
def LawS2742AOrderWrongFalsely : Prop := lawS2742AOrderRow.holds Yba.pinned (OpenSpec.ofChange lawS2742AOrderWrong)

/-- 'testkeys.LawS2742BAgreesWithNext': WHATEVER THE INPUT: true; the input reads as it did. -/
def lawS2742BAgreesWithNextSpec : ChangeSpec := { name := "lawS2742BAgreesWithNext", fn := fun _ => fun
  | [d1, d2] => { results := [.lit (.bool true)], args := [d1, d2] }
  | _ => none }
def lawS2742BAgreesWithNextRow : OpenClaim := { program := "ybulkbdtm", sum := "56b23067ae80ca8d22e3e46309ccfac9e8a592c0e7d525cd7f1fb9d976276d15", func := "example.com/probewise/probewise/internal/testkeys.LawS2742BAgreesWithNext", spec := "lawS2742BAgreesWithNext", apart := false }
def LawS2742BAgreesWithNextSaid : Prop := lawS2742BAgreesWithNextRow.holds Yba.pinned (OpenSpec.ofChange lawS2742BAgreesWithNextSpec)

/-- ITS FALSE NEIGHBOUR: 'it returns false'. Refute it at one input. -/
def lawS2742BAgreesWithNextWrong : ChangeSpec := { name := "lawS2742BAgreesWithNext", fn := fun _ => fun
  | [d1, d2] => { results := [.lit (.bool false)], args := [d1, d2] }
  | _ => none }
def LawS2742BAgreesWithNextWrongFalsely : Prop := lawS2742BAgreesWithNextRow.holds Yba.pinned (OpenSpec.ofChange lawS2742BAgreesWithNextWrong)

/-- 'testkeys.LawS2742BPrefix': WHATEVER THE INPUT: true; the input reads as it did. -/
def lawS2742BPrefixSpec : ChangeSpec := { name := "lawS2742BPrefix", fn := fun _ => fun
  | [d1, d2, d3] => { results := [.lit (.bool true)], args := [d1, d2, d3] }
  | _ => none }
def lawS2742BPrefixRow : OpenClaim := { program := "ybulkbdtm", sum := "56b23067ae80ca8d22e3e46309ccfac9e8a592c0e7d525cd7f1fb9d976276d15", func := "example.com/probewise/probewise/internal/testkeys.LawS2742BPrefix", spec := "lawS2742BPrefix", apart := false }
def LawS2742BPrefixSaid : Prop := lawS2742BPrefixRow.holds Yba.pinned (OpenSpec.ofChange lawS2742BPrefixSpec)

/-- ITS FALSE NEIGHBOUR: 'it returns false'. Refute it at one input. -/
def lawS2742BPrefixWrong : ChangeSpec := { name := "lawS2742BPrefix", fn := fun _ => fun
  | [d1, d2, d3] => { results := [.lit (.bool false)], args := [d1, d2, d3] }
  | _ => none }
def LawS2742BPrefixWrongFalsely : Prop := lawS2742BPrefixRow.holds Yba.pinned (OpenSpec.ofChange lawS2742BPrefixWrong)

end Rows
end Go.Proofs.Ybulkbdtm
