/-
  No cell of these rows narrows 'for every input' (looked for: loops, veiled, ifaces, maps, wideKeys, modest, calm, conditions, laid).
  DERIVED. THE GIVEN ROWS OF THIS SEAT. 1 by the template 'for every input the law returns true; each argument reads behind the call as it read before'; 0 by the template 'total and deterministic' (their statements: YbulkdlbcFmtTotals.lean).
  GIVEN WITH THE SEED: the statements are not yours to turn. If you find one false, say at which input.
  Laid BY PROGRAM, IN A SANDBOX (cutbox-rows.mjs): the forced cells as the released guide's own fill.sh prints them over the translation c3dece2fecfd28d3… (all of the seat's roots in one cut). By AI agents, Wed Nov 11 2026. No macro, syntax, notation, axiom, sorry.
-/
import Derived.Test.YbulkdlbcFmtChecked
import GoSem.Claim
import GoSem.ClaimJoined
import GoSem.ClaimMapViews
import Derived.JoinedTies
import Derived.KernelRfl
namespace Go.Proofs.YbulkdlbcFmt
/- THE CELL 'sum', in the pinned program and in every row, IS THE sha256 OF THE DUMP (.gsa) THAT YbulkdlbcFmtProg.lean LOADS. Nothing in Lean hashes anything: it is a label: what it is worth is what the hold of that sum in a sandbox is worth. -/
noncomputable def Ybaf.pinned : Pinned := { name := "ybulkdlbcfmt", sum := "c3dece2fecfd28d3e4511f3a89389939eb1cd59caa971ba00732421fe6fd38f6", checked := Ybaf.checked }
namespace Rows
def none {H : Type} : Left H := { results := [], args := [] }

/-- 'octant.LawS5605BWhole': WHATEVER THE INPUT: true; the input reads as it did. -/
def lawS5605BWholeSpec : ChangeSpec := { name := "lawS5605BWhole", fn := fun _ => fun
  | [d1, d2, d3] => { results := [.lit (.bool true)], args := [d1, d2, d3] }
  | _ => none }
def lawS5605BWholeRow : OpenClaim := { program := "ybulkdlbcfmt", sum := "c3dece2fecfd28d3e4511f3a89389939eb1cd59caa971ba00732421fe6fd38f6", func := "example.com/octant/octant.LawS5605BWhole", spec := "lawS5605BWhole", stops := ["fmt.errorf"], inPlace := ["internal/abi.NoEscape", "internal/bytealg.MakeNoZero", "fmt.errorf"], named := ["encoding/binary.BigEndian"], apart := false }
/-- NO THEOREM (fmt's text is open here; it may be false): for the released tool's asking of the row's closed facts alone. THE STATEMENT IS 'LawS5605BWholeToldSaid' (YbulkdlbcFmtCards.lean). -/
def LawS5605BWholeFormAsk : Prop := lawS5605BWholeRow.holds Ybaf.pinned (OpenSpec.ofChange lawS5605BWholeSpec)

/-- ITS FALSE NEIGHBOUR: 'it returns false'. Refute it at one input. -/
def lawS5605BWholeWrong : ChangeSpec := { name := "lawS5605BWhole", fn := fun _ => fun
  | [d1, d2, d3] => { results := [.lit (.bool false)], args := [d1, d2, d3] }
  | _ => none }
def LawS5605BWholeWrongFormAsk : Prop := lawS5605BWholeRow.holds Ybaf.pinned (OpenSpec.ofChange lawS5605BWholeWrong)

end Rows
end Go.Proofs.YbulkdlbcFmt
