/-
  No cell of these rows narrows 'for every input' (looked for: loops, veiled, ifaces, maps, wideKeys, modest, calm, conditions, laid).
  DERIVED. THE GIVEN ROWS OF THIS SEAT. 1 by the template 'for every input the law returns true; each argument reads behind the call as it read before'; 0 by the template 'total and deterministic' (their statements: YbulkbdskTotals.lean).
  GIVEN WITH THE SEED: the statements are not yours to turn. If you find one false, say at which input.
  Laid BY PROGRAM, IN A SANDBOX (cutbox-rows.mjs): the forced cells as the released guide's own fill.sh prints them over the translation 547d38d95a3bb070… (all of the seat's roots in one cut). By AI agents, Wed Nov 11 2026. No macro, syntax, notation, axiom, sorry.
-/
import Derived.Test.YbulkbdskChecked
import GoSem.Claim
import GoSem.ClaimJoined
import GoSem.ClaimMapViews
import Derived.JoinedTies
import Derived.KernelRfl
namespace Go.Proofs.Ybulkbdsk
/- THE CELL 'sum', in the pinned program and in every row, IS THE sha256 OF THE DUMP (.gsa) THAT YbulkbdskProg.lean LOADS. Nothing in Lean hashes anything: it is a label: what it is worth is what the hold of that sum in a sandbox is worth. -/
noncomputable def Yba.pinned : Pinned := { name := "ybulkbdsk", sum := "547d38d95a3bb070cde73581d91691fa3d720d77d85bdf23d2eac06c4f2cb753", checked := Yba.checked }
namespace Rows
def none {H : Type} : Left H := { results := [], args := [] }

/-- 'nearpeer.LawS2740BHalves': WHATEVER THE INPUT: true; the input reads as it did. -/
def lawS2740BHalvesSpec : ChangeSpec := { name := "lawS2740BHalves", fn := fun _ => fun
  | [d1, d2, d3] => { results := [.lit (.bool true)], args := [d1, d2, d3] }
  | _ => none }
def lawS2740BHalvesRow : OpenClaim := { program := "ybulkbdsk", sum := "547d38d95a3bb070cde73581d91691fa3d720d77d85bdf23d2eac06c4f2cb753", func := "example.com/nearpeer/nearpeer.LawS2740BHalves", spec := "lawS2740BHalves", inPlace := ["slices.overlaps[[]example.com/nearpeer/nearpeer.keyed]"], apart := false }
def LawS2740BHalvesSaid : Prop := lawS2740BHalvesRow.holds Yba.pinned (OpenSpec.ofChange lawS2740BHalvesSpec)

/-- ITS FALSE NEIGHBOUR: 'it returns false'. Refute it at one input. -/
def lawS2740BHalvesWrong : ChangeSpec := { name := "lawS2740BHalves", fn := fun _ => fun
  | [d1, d2, d3] => { results := [.lit (.bool false)], args := [d1, d2, d3] }
  | _ => none }
def LawS2740BHalvesWrongFalsely : Prop := lawS2740BHalvesRow.holds Yba.pinned (OpenSpec.ofChange lawS2740BHalvesWrong)

end Rows
end Go.Proofs.Ybulkbdsk
