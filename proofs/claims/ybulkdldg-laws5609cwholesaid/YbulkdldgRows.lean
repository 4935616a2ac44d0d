/-
  No cell of these rows narrows 'for every input' (looked for: loops, veiled, ifaces, maps, wideKeys, modest, calm, conditions, laid).
  DERIVED. THE GIVEN ROWS OF THIS SEAT. 1 by the template 'for every input the law returns true; each argument reads behind the call as it read before'; 0 by the template 'total and deterministic' (their statements: YbulkdldgTotals.lean).
  GIVEN WITH THE SEED: the statements are not yours to turn. If you find one false, say at which input.
  Laid BY PROGRAM, IN A SANDBOX (cutbox-rows.mjs): the forced cells as the released guide's own fill.sh prints them over the translation 2816771cdc1de414… (all of the seat's roots in one cut). By AI agents, Wed Nov 11 2026. No macro, syntax, notation, axiom, sorry.
-/
import Derived.Test.YbulkdldgChecked
import GoSem.Claim
import GoSem.ClaimJoined
import GoSem.ClaimMapViews
import Derived.JoinedTies
import Derived.KernelRfl
namespace Go.Proofs.Ybulkdldg
/- THE CELL 'sum', in the pinned program and in every row, IS THE sha256 OF THE DUMP (.gsa) THAT YbulkdldgProg.lean LOADS. Nothing in Lean hashes anything: it is a label: what it is worth is what the hold of that sum in a sandbox is worth. -/
noncomputable def Yba.pinned : Pinned := { name := "ybulkdldg", sum := "2816771cdc1de414f363b527ef8f3061b7a6c6aa999a08e6535f9f3b7ef48f87", checked := Yba.checked }
namespace Rows
def none {H : Type} : Left H := { results := [], args := [] }

/-- 'gate.LawS5609CWhole': WHATEVER THE INPUT: true; the input reads as it did. -/
def lawS5609CWholeSpec : ChangeSpec := { name := "lawS5609CWhole", fn := fun _ => fun
  | [d1, d2, d3, d4] => { results := [.lit (.bool true)], args := [d1, d2, d3, d4] }
  | _ => none }
def lawS5609CWholeRow : OpenClaim := { program := "ybulkdldg", sum := "2816771cdc1de414f363b527ef8f3061b7a6c6aa999a08e6535f9f3b7ef48f87", func := "example.com/coinmoot/coinmoot/gate.LawS5609CWhole", spec := "lawS5609CWhole", plainKeys := false, apart := false }
def LawS5609CWholeSaid : Prop := lawS5609CWholeRow.holds Yba.pinned (OpenSpec.ofChange lawS5609CWholeSpec)

/-- ITS FALSE NEIGHBOUR: 'it returns false'. Refute it at one input. -/
def lawS5609CWholeWrong : ChangeSpec := { name := "lawS5609CWhole", fn := fun _ => fun
  | [d1, d2, d3, d4] => { results := [.lit (.bool false)], args := [d1, d2, d3, d4] }
  | _ => none }
def LawS5609CWholeWrongFalsely : Prop := lawS5609CWholeRow.holds Yba.pinned (OpenSpec.ofChange lawS5609CWholeWrong)

end Rows
end Go.Proofs.Ybulkdldg
