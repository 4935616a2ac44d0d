/-
  NARROWER THAN 'FOR EVERY INPUT', by the rows' own cells (each row's printed sentence says how): LawS5605CWhole: laid.
  DERIVED. THE GIVEN ROWS OF THIS SEAT. 1 by the template 'for every input the law returns true; each argument reads behind the call as it read before'; 0 by the template 'total and deterministic' (their statements: YbulkdlbcDoorTotals.lean).
  GIVEN WITH THE SEED: the statements are not yours to turn. If you find one false, say at which input.
  Laid BY PROGRAM, IN A SANDBOX (cutbox-rows.mjs): the forced cells as the released guide's own fill.sh prints them over the translation 87d1f7a83d8cdf0c… (all of the seat's roots in one cut). By AI agents, Wed Nov 11 2026. No macro, syntax, notation, axiom, sorry.
-/
import Derived.Test.YbulkdlbcDoorChecked
import GoSem.Claim
import GoSem.ClaimJoined
import GoSem.ClaimMapViews
import Derived.JoinedTies
import Derived.KernelRfl
namespace Go.Proofs.YbulkdlbcDoor
/- THE CELL 'sum', in the pinned program and in every row, IS THE sha256 OF THE DUMP (.gsa) THAT YbulkdlbcDoorProg.lean LOADS. Nothing in Lean hashes anything: it is a label: what it is worth is what the hold of that sum in a sandbox is worth. -/
noncomputable def Ybad.pinned : Pinned := { name := "ybulkdlbcdoor", sum := "87d1f7a83d8cdf0c04e7e2e8879e002f7a334864c839c3ce26be35cdd1c13a99", checked := Ybad.checked }
namespace Rows
def none {H : Type} : Left H := { results := [], args := [] }

/- WHAT THE LISTED PACKAGE-LEVEL VARIABLES READ AS WHEN THE CALL BEGINS. Each datum BY PROGRAM (the guide's laid-datum.mjs) off the statement by which the dump's own 'gosem.cut.vars' lays the variable. In a bare row this is a premise. The card (YbulkdlbcDoorCards.lean) ties it to the program's text. -/
def laid_net_netip_z0 {H : Type} : DataW H := .agg [.nil]

/-- 'octant.LawS5605CWhole': WHATEVER THE INPUT: true; the input reads as it did. -/
def lawS5605CWholeSpec : ChangeSpec := { name := "lawS5605CWhole", fn := fun _ => fun
  | [d1, d2, d3, d4] => { results := [.lit (.bool true)], args := [d1, d2, d3, d4] }
  | _ => none }
def lawS5605CWholeRow : OpenClaim := { program := "ybulkdlbcdoor", sum := "87d1f7a83d8cdf0c04e7e2e8879e002f7a334864c839c3ce26be35cdd1c13a99", func := "example.com/octant/octant.LawS5605CWhole", spec := "lawS5605CWhole", recurses := true, named := ["net/netip.z0"], plainKeys := false, apart := false, laid := [("net/netip.z0", laid_net_netip_z0)] }
def LawS5605CWholeSaid : Prop := lawS5605CWholeRow.holds Ybad.pinned (OpenSpec.ofChange lawS5605CWholeSpec)

/-- ITS FALSE NEIGHBOUR: 'it returns false'. Refute it at one input. -/
def lawS5605CWholeWrong : ChangeSpec := { name := "lawS5605CWhole", fn := fun _ => fun
  | [d1, d2, d3, d4] => { results := [.lit (.bool false)], args := [d1, d2, d3, d4] }
  | _ => none }
def LawS5605CWholeWrongFalsely : Prop := lawS5605CWholeRow.holds Ybad.pinned (OpenSpec.ofChange lawS5605CWholeWrong)

end Rows
end Go.Proofs.YbulkdlbcDoor
