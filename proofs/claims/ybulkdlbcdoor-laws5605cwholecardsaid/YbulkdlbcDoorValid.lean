/-
  THE WALK of (netip.Addr).IsValid at the zero address; '==' on times and on handles.
-/
import Derived.Test.YbulkdlbcDoorSub
import Derived.LaidEql
import Derived.Laws.StructEq
namespace Go.Proofs.YbulkdlbcDoor
open Go.RowKit

theorem eqIn24 (d : Nat) (w : World) : (Op.equalIn (d + 1) 24 (.pointer none) (.pointer none)).run Ybad.prog w = .ok true w := by simp [Op.equalIn, run_underlying Ybad.underlying24]
theorem eqIn40 (d : Nat) (w : World) : (Op.equalIn (d + 1) 40 (.pointer none) (.pointer none)).run Ybad.prog w = .ok true w := by simp [Op.equalIn, run_underlying Ybad.underlying40]
theorem eq26 (a e : Int) (w : World) : (Op.equalIn 10000 26 (.agg #[.int .u64 a, .int .i64 e, .pointer none]) (.agg #[.int .u64 a, .int .i64 e, .pointer none])).run Ybad.prog w = .ok true w := by
  have h := eqIn24 9998 w
  rw [show (10000 : Nat) = 9999 + 1 from rfl, Op.equalIn]
  simp only [Sem.run_bind, run_underlying Ybad.underlying26, Result.andThen_ok]
  go_simp

set_option maxRecDepth 100000 in
theorem valid_any (w : World) (hz : w.cell? ⟨0, 0, none⟩ = some (.pointer none)) :
    Calls Ybad.prog 8 #[.agg #[.int .u64 0, .int .u64 0, .pointer none]] w fun e w' => e = .returned (.bool false) ∧ Below w.heap.size w w' := by
  have hl := World.block_lt_of_cell? w _ hz
  dsimp only at hl
  have e40 := fun w' => eqIn40 9998 w'
  go_enter Ybad.func8, Ybad.ntmps8
  go_wp2
  go_ret
  exact ⟨rfl, (Below.refl _ _).alloc (Nat.le_refl _) _⟩
end Go.Proofs.YbulkdlbcDoor
