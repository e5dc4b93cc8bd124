/-
  NARROWER THAN 'FOR EVERY INPUT', by the rows' own cells (each row's printed sentence says how): LawS2740CScript: laid.
  DERIVED. THE GIVEN ROWS OF THIS SEAT. 1 by the template 'for every input the law returns true; each argument reads behind the call as it read before'; 0 by the template 'total and deterministic' (their statements: YbulkbdskDoorTotals.lean).
  GIVEN WITH THE SEED: the statements are not yours to turn. If you find one false, say at which input.
  Laid BY PROGRAM, IN A SANDBOX (cutbox-rows.mjs): the forced cells as the released guide's own fill.sh prints them over the translation 9344ebcab99bc4ae… (all of the seat's roots in one cut). By AI agents, Wed Nov 11 2026. No macro, syntax, notation, axiom, sorry.
-/
import Derived.Test.YbulkbdskDoorChecked
import GoSem.Claim
import GoSem.ClaimJoined
import GoSem.ClaimMapViews
import Derived.JoinedTies
import Derived.KernelRfl
namespace Go.Proofs.YbulkbdskDoor
/- THE CELL 'sum', in the pinned program and in every row, IS THE sha256 OF THE DUMP (.gsa) THAT YbulkbdskDoorProg.lean LOADS. Nothing in Lean hashes anything: it is a label: what it is worth is what the hold of that sum in a sandbox is worth. -/
noncomputable def Ybad.pinned : Pinned := { name := "ybulkbdskdoor", sum := "9344ebcab99bc4ae541515de2d3820fe9dca6eb35cec2b9d558e087990538bf3", checked := Ybad.checked }
namespace Rows
def none {H : Type} : Left H := { results := [], args := [] }

/- WHAT THE LISTED PACKAGE-LEVEL VARIABLES READ AS WHEN THE CALL BEGINS. Each datum BY PROGRAM (the guide's laid-datum.mjs) off the statement by which the dump's own 'gosem.cut.vars' lays the variable. In a bare row this is a premise. The card (YbulkbdskDoorCards.lean) ties it to the program's text. -/
def laid_net_netip_z4 {H : Type} : DataW H := .agg [.ptr (.agg [.lit (.bool false), .lit (.string [])])]
def laid_net_netip_z6noz {H : Type} : DataW H := .agg [.ptr (.agg [.lit (.bool true), .lit (.string [])])]
def laid_net_netip_z0 {H : Type} : DataW H := .agg [.nil]

/-- 'tracker.LawS2740CScript': WHATEVER THE INPUT: true; the input reads as it did. -/
def lawS2740CScriptSpec : ChangeSpec := { name := "lawS2740CScript", fn := fun _ => fun
  | [d] => { results := [.lit (.bool true)], args := [d] }
  | _ => none }
def lawS2740CScriptRow : OpenClaim := { program := "ybulkbdskdoor", sum := "9344ebcab99bc4ae541515de2d3820fe9dca6eb35cec2b9d558e087990538bf3", func := "example.com/nearpeer/nearpeer/internal/tracker.LawS2740CScript", spec := "lawS2740CScript", inPlace := ["slices.overlaps[[]example.com/nearpeer/nearpeer.keyed]", "slices.overlaps[example.com/nearpeer/nearpeer.keyed]"], unfollowed := true, recurses := true, named := ["net/netip.z0", "net/netip.z4", "encoding/binary.BigEndian", "net/netip.z6noz"], plainKeys := false, apart := false, laid := [("net/netip.z4", laid_net_netip_z4), ("net/netip.z6noz", laid_net_netip_z6noz), ("net/netip.z0", laid_net_netip_z0)] }
def LawS2740CScriptSaid : Prop := lawS2740CScriptRow.holds Ybad.pinned (OpenSpec.ofChange lawS2740CScriptSpec)

/-- ITS FALSE NEIGHBOUR: 'it returns false'. Refute it at one input. -/
def lawS2740CScriptWrong : ChangeSpec := { name := "lawS2740CScript", fn := fun _ => fun
  | [d] => { results := [.lit (.bool false)], args := [d] }
  | _ => none }
def LawS2740CScriptWrongFalsely : Prop := lawS2740CScriptRow.holds Ybad.pinned (OpenSpec.ofChange lawS2740CScriptWrong)

end Rows
end Go.Proofs.YbulkbdskDoor
