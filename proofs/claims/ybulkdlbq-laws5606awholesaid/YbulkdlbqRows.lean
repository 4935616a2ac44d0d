/-
  No cell of these rows narrows 'for every input' (looked for: loops, veiled, ifaces, maps, wideKeys, modest, calm, conditions, laid).
  DERIVED. THE GIVEN ROWS OF THIS SEAT. 1 by the template 'for every input the law returns true; each argument reads behind the call as it read before'; 0 by the template 'total and deterministic' (their statements: YbulkdlbqTotals.lean).
  GIVEN WITH THE SEED: the statements are not yours to turn. If you find one false, say at which input.
  Laid BY PROGRAM, IN A SANDBOX (cutbox-rows.mjs): the forced cells as the released guide's own fill.sh prints them over the translation 0398030baceb0036… (all of the seat's roots in one cut). By AI agents, Wed Nov 11 2026. No macro, syntax, notation, axiom, sorry.
-/
import Derived.Test.YbulkdlbqChecked
import GoSem.Claim
import GoSem.ClaimJoined
import GoSem.ClaimMapViews
import Derived.JoinedTies
import Derived.KernelRfl
namespace Go.Proofs.Ybulkdlbq
/- THE CELL 'sum', in the pinned program and in every row, IS THE sha256 OF THE DUMP (.gsa) THAT YbulkdlbqProg.lean LOADS. Nothing in Lean hashes anything: it is a label: what it is worth is what the hold of that sum in a sandbox is worth. -/
noncomputable def Yba.pinned : Pinned := { name := "ybulkdlbq", sum := "0398030baceb003604b8aa0ccbbe0802574ca59f7951d62fcdfa6a89db713871", checked := Yba.checked }
namespace Rows
def none {H : Type} : Left H := { results := [], args := [] }

/-- 'export.LawS5606AWhole': WHATEVER THE INPUT: true; the input reads as it did. -/
def lawS5606AWholeSpec : ChangeSpec := { name := "lawS5606AWhole", fn := fun _ => fun
  | [d1, d2] => { results := [.lit (.bool true)], args := [d1, d2] }
  | _ => none }
def lawS5606AWholeRow : OpenClaim := { program := "ybulkdlbq", sum := "0398030baceb003604b8aa0ccbbe0802574ca59f7951d62fcdfa6a89db713871", func := "example.com/forkbench/forkbench/export.LawS5606AWhole", spec := "lawS5606AWhole", apart := false }
def LawS5606AWholeSaid : Prop := lawS5606AWholeRow.holds Yba.pinned (OpenSpec.ofChange lawS5606AWholeSpec)

/-- ITS FALSE NEIGHBOUR: 'it returns false'. Refute it at one input. -/
def lawS5606AWholeWrong : ChangeSpec := { name := "lawS5606AWhole", fn := fun _ => fun
  | [d1, d2] => { results := [.lit (.bool false)], args := [d1, d2] }
  | _ => none }
def LawS5606AWholeWrongFalsely : Prop := lawS5606AWholeRow.holds Yba.pinned (OpenSpec.ofChange lawS5606AWholeWrong)

end Rows
end Go.Proofs.Ybulkdlbq
