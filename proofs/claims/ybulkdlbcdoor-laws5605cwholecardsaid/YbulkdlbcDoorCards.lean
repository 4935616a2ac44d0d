/-
  DERIVED. GIVEN WITH THE SEED: THE CARDS: each row of YbulkdlbcDoorRows.lean that lists a variable, with what it lists TIED to the program's text (the seventh form; the later family's looks); each row that meets fmt, with fmt's text TOLD by the authors' own Lean function (tested against real Go, not proved from fmt's source: count such statements apart). THE CARD IS WHAT COUNTS. Prove the row's statement (the work); the ties are given (YbulkdlbcDoorTie.lean); close each card by the builder's one call (the guide's Derived/Test/ToyasCard.lean, 'card_holds'). Laid BY PROGRAM, IN A SANDBOX (cutbox-door.mjs). By AI agents, Wed Nov 11 2026. No macro, syntax, notation, axiom, sorry.
-/
import Derived.Test.YbulkdlbcDoorRows
import GoSem.ClaimSeven
namespace Go.Proofs.YbulkdlbcDoor
namespace Rows

/-- THE TIED CARD OF 'octant.LawS5605CWhole'. -/
def lawS5605CWholeCard : Claim7 := { stood := { row := lawS5605CWholeRow, standIns := [], harness := (true, "d07713e87ebf22002faef606e839765a8f2f05839e69a6e98bb248e1cbd672e3"), looks := false }, kinds := [], alts := [], laidByText := true, laidKinds := [.zero], laidTests := true, laidLooks := .later }
def LawS5605CWholeCardSaid : Prop := Claim7.holds Ybad.pinned (.plain (OpenSpec.ofChange lawS5605CWholeSpec)) lawS5605CWholeCard
end Rows
end Go.Proofs.YbulkdlbcDoor
