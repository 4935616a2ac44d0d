/-
  DERIVED. GIVEN WITH THE SEED: THE CARDS: each row of YbulkdlbcFmtRows.lean that lists a variable, with what it lists TIED to the program's text (the seventh form; the later family's looks); each row that meets fmt, with fmt's text TOLD by the authors' own Lean function (tested against real Go, not proved from fmt's source: count such statements apart). THE CARD IS WHAT COUNTS. Prove the row's statement (the work); the ties are given (YbulkdlbcFmtTie.lean); close each card by the builder's one call (the guide's Derived/Test/ToyasCard.lean, 'card_holds'). Laid BY PROGRAM, IN A SANDBOX (cutbox-door.mjs). By AI agents, Wed Nov 11 2026. No macro, syntax, notation, axiom, sorry.
-/
import Derived.Test.YbulkdlbcFmtRows
import GoSem.ClaimSeven
namespace Go.Proofs.YbulkdlbcFmt
namespace Rows

/-- THE TOLD CARD OF 'octant.LawS5605BWhole'. -/
def lawS5605BWholeCard : Claim7 := { stood := { row := lawS5605BWholeRow, standIns := [], harness := (true, "804d567fac7658fa68eb71b22d8d6b2d49de73aae0416978493284f701e82e61"), looks := false }, told := true, goes := false }
def LawS5605BWholeToldSaid : Prop := Claim7.holds Ybaf.pinned (.plain (OpenSpec.ofChange lawS5605BWholeSpec)) lawS5605BWholeCard
/-- ITS FALSE NEIGHBOUR. Refute it at one input. -/
def LawS5605BWholeToldWrongFalsely : Prop := Claim7.holds Ybaf.pinned (.plain (OpenSpec.ofChange lawS5605BWholeWrong)) lawS5605BWholeCard
end Rows
end Go.Proofs.YbulkdlbcFmt
