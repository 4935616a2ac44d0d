/-
  DERIVED. GIVEN WITH THE SEED: THE CARDS: each row of YbulkdlcsDoorRows.lean that lists a variable, with what it lists TIED to the program's text (the seventh form; the later family's looks); each row that meets fmt, with fmt's text TOLD by the authors' own Lean function (tested against real Go, not proved from fmt's source: count such statements apart). THE CARD IS WHAT COUNTS. Prove the row's statement (the work); the ties are given (YbulkdlcsDoorTie.lean); close each card by the builder's one call (the guide's Derived/Test/ToyasCard.lean, 'card_holds'). Laid BY PROGRAM, IN A SANDBOX (cutbox-door.mjs). By AI agents, Wed Nov 11 2026. No macro, syntax, notation, axiom, sorry.
-/
import Derived.Test.YbulkdlcsDoorRows
import GoSem.ClaimSeven
namespace Go.Proofs.YbulkdlcsDoor
namespace Rows

/-- THE TIED CARD OF 'gemini.LawS5608APart'. -/
def lawS5608APartCard : Claim7 := { stood := { row := lawS5608APartRow, standIns := [], harness := (true, "121fc9f318cf240c323445d7866dafc29f98c2bfbadde87a2aa38edba3e83cdb"), looks := false }, kinds := [], alts := [], laidByText := true, laidKinds := [.mappedDeep], laidTests := true, laidLooks := .later }
def LawS5608APartCardSaid : Prop := Claim7.holds Ybad.pinned (.plain (OpenSpec.ofChange lawS5608APartSpec)) lawS5608APartCard
end Rows
end Go.Proofs.YbulkdlcsDoor
