/-
  NARROWER THAN 'FOR EVERY INPUT', by the rows' own cells (each row's printed sentence says how): LawS5608APart: maps, laid.
  DERIVED. THE GIVEN ROWS OF THIS SEAT. 1 by the template 'for every input the law returns true; each argument reads behind the call as it read before'; 0 by the template 'total and deterministic' (their statements: YbulkdlcsDoorTotals.lean).
  GIVEN WITH THE SEED: the statements are not yours to turn. If you find one false, say at which input.
  Laid BY PROGRAM, IN A SANDBOX (cutbox-rows.mjs): the forced cells as the released guide's own fill.sh prints them over the translation d4f48a18f8c84cb8… (all of the seat's roots in one cut). By AI agents, Wed Nov 11 2026. No macro, syntax, notation, axiom, sorry.
-/
import Derived.Test.YbulkdlcsDoorChecked
import GoSem.Claim
import GoSem.ClaimJoined
import GoSem.ClaimMapViews
import Derived.JoinedTies
import Derived.KernelRfl
namespace Go.Proofs.YbulkdlcsDoor
/- THE CELL 'sum', in the pinned program and in every row, IS THE sha256 OF THE DUMP (.gsa) THAT YbulkdlcsDoorProg.lean LOADS. Nothing in Lean hashes anything: it is a label: what it is worth is what the hold of that sum in a sandbox is worth. -/
noncomputable def Ybad.pinned : Pinned := { name := "ybulkdlcsdoor", sum := "d4f48a18f8c84cb8a8120e6e673a35608eef1efcd3952768a61fd9679712aaaf", checked := Ybad.checked }
namespace Rows
def none {H : Type} : Left H := { results := [], args := [] }

/- WHAT THE LISTED PACKAGE-LEVEL VARIABLES READ AS WHEN THE CALL BEGINS. Each datum BY PROGRAM (the guide's laid-datum.mjs) off the statement by which the dump's own 'gosem.cut.vars' lays the variable. In a bare row this is a premise. The card (YbulkdlcsDoorCards.lean) ties it to the program's text. -/
def laid_example_com_ratchet_ratchet_gemini_stopReasons {H : Type} : DataW H := .map [(.string [66, 76, 79, 67, 75, 76, 73, 83, 84], .lit (.string [102, 105, 108, 116, 101, 114, 101, 100])), (.string [73, 77, 65, 71, 69, 95, 80, 82, 79, 72, 73, 66, 73, 84, 69, 68, 95, 67, 79, 78, 84, 69, 78, 84], .lit (.string [102, 105, 108, 116, 101, 114, 101, 100])), (.string [73, 77, 65, 71, 69, 95, 82, 69, 67, 73, 84, 65, 84, 73, 79, 78], .lit (.string [102, 105, 108, 116, 101, 114, 101, 100])), (.string [73, 77, 65, 71, 69, 95, 83, 65, 70, 69, 84, 89], .lit (.string [102, 105, 108, 116, 101, 114, 101, 100])), (.string [77, 65, 88, 95, 84, 79, 75, 69, 78, 83], .lit (.string [108, 101, 110, 103, 116, 104])), (.string [80, 82, 79, 72, 73, 66, 73, 84, 69, 68, 95, 67, 79, 78, 84, 69, 78, 84], .lit (.string [102, 105, 108, 116, 101, 114, 101, 100])), (.string [82, 69, 67, 73, 84, 65, 84, 73, 79, 78], .lit (.string [102, 105, 108, 116, 101, 114, 101, 100])), (.string [83, 65, 70, 69, 84, 89], .lit (.string [102, 105, 108, 116, 101, 114, 101, 100])), (.string [83, 80, 73, 73], .lit (.string [102, 105, 108, 116, 101, 114, 101, 100])), (.string [83, 84, 79, 80], .lit (.string [101, 110, 100]))]

/-- 'gemini.LawS5608APart': WHATEVER THE INPUT: true; the input reads as it did. -/
def lawS5608APartSpec : ChangeSpec := { name := "lawS5608APart", vars := ["example.com/ratchet/ratchet/gemini.stopReasons"], fn := fun _ => fun
  | [d1, d2, d3, d4, g1] => { results := [.lit (.bool true)], args := [d1, d2, d3, d4], vars := [g1] }
  | _ => none }
def lawS5608APartRow : OpenClaim := { program := "ybulkdlcsdoor", sum := "d4f48a18f8c84cb8a8120e6e673a35608eef1efcd3952768a61fd9679712aaaf", func := "example.com/ratchet/ratchet/gemini.LawS5608APart", spec := "lawS5608APart", named := ["example.com/ratchet/ratchet/gemini.stopReasons"], maps := true, apart := false, laid := [("example.com/ratchet/ratchet/gemini.stopReasons", laid_example_com_ratchet_ratchet_gemini_stopReasons)] }
def LawS5608APartSaid : Prop := lawS5608APartRow.holds Ybad.pinned (OpenSpec.ofChange lawS5608APartSpec)

/-- ITS FALSE NEIGHBOUR: 'it returns false'. Refute it at one input. -/
def lawS5608APartWrong : ChangeSpec := { name := "lawS5608APart", vars := ["example.com/ratchet/ratchet/gemini.stopReasons"], fn := fun _ => fun
  | [d1, d2, d3, d4, g1] => { results := [.lit (.bool false)], args := [d1, d2, d3, d4], vars := [g1] }
  | _ => none }
def LawS5608APartWrongFalsely : Prop := lawS5608APartRow.holds Ybad.pinned (OpenSpec.ofChange lawS5608APartWrong)

end Rows
end Go.Proofs.YbulkdlcsDoor
