/-
  '==' and '!=' on pointers to shares, and on arrays of three of them.
-/
import Derived.Test.YbulkdldgEvens
import Derived.LaidEql
import Derived.Laws.StructEq
namespace Go.Proofs.Ybulkdldg
open Go.RowKit

theorem info66 : ∃ j, Yba.prog.info? 66 = some j ∧ j.size ≠ 0 := ⟨Yba.t66, by kernel_rfl, by decide⟩

theorem eqIn_same (d : Nat) (p : Option Addr) (w : World) : (Op.equalIn (d + 1) 36 (.pointer p) (.pointer p)).run Yba.prog w = .ok true w := by
  obtain ⟨j, hj, _⟩ := info66
  cases p with
  | none => simp [Op.equalIn, run_underlying Yba.underlying36]
  | some a => simp [Op.equalIn, run_underlying Yba.underlying36, sizeOf, typeInfo, hj, run_sameAddr_same]

theorem neq_same (p : Option Addr) (w : World) : (binOp .neq 36 (.pointer p) (.pointer p)).run Yba.prog w = .ok (.bool false) w := by
  simp only [binOp]
  simp [Op.equal, Op.maxDepth, eqIn_same 9999 p w]

theorem neq_some_nil (a : Addr) (w : World) : (binOp .neq 36 (.pointer (some a)) (.pointer none)).run Yba.prog w = .ok (.bool true) w := by
  have h : ∀ d, (Op.equalIn (d + 1) 36 (.pointer (some a)) (.pointer none)).run Yba.prog w = .ok false w := fun d => by simp [Op.equalIn, run_underlying Yba.underlying36]
  simp only [binOp]
  simp [Op.equal, Op.maxDepth, h 9999]

theorem neq_nil_some (a : Addr) (w : World) : (binOp .neq 36 (.pointer none) (.pointer (some a))).run Yba.prog w = .ok (.bool true) w := by
  have h : ∀ d, (Op.equalIn (d + 1) 36 (.pointer none) (.pointer (some a))).run Yba.prog w = .ok false w := fun d => by simp [Op.equalIn, run_underlying Yba.underlying36]
  simp only [binOp]
  simp [Op.equal, Op.maxDepth, h 9999]

theorem neq_other {a b : Addr} {ca cb : Array Value} {ta tb : TypeId} (w : World) (hne : a ≠ b) (ha : w.heap[a.block]? = some (.cells ca ta (0, 0))) (hb : w.heap[b.block]? = some (.cells cb tb (0, 0))) :
    (binOp .neq 36 (.pointer (some a)) (.pointer (some b))).run Yba.prog w = .ok (.bool true) w := by
  obtain ⟨j, hj, hs⟩ := info66
  have h : ∀ d, (Op.equalIn (d + 1) 36 (.pointer (some a)) (.pointer (some b))).run Yba.prog w = .ok false w := fun d => by simp [Op.equalIn, run_underlying Yba.underlying36, sizeOf, typeInfo, hj, hs, run_sameAddr_other w hne ha hb]
  simp only [binOp]
  simp [Op.equal, Op.maxDepth, h 9999]

theorem eq37 (p q r : Option Addr) (w : World) : (Op.equalIn 10000 37 (.agg #[.pointer p, .pointer q, .pointer r]) (.agg #[.pointer p, .pointer q, .pointer r])).run Yba.prog w = .ok true w := by
  have u36 := Yba.underlying36
  have a36 := Yba.isAgg36
  have z36 := Yba.sizeOf36
  have e := eqIn_same 9998
  rw [show (10000 : Nat) = 9999 + 1 from rfl, Op.equalIn]
  simp only [Sem.run_bind, run_underlying Yba.underlying37, Result.andThen_ok]
  simp only [Std.Legacy.Range.forIn_eq_forIn_range', Std.Legacy.Range.size, Nat.sub_zero, Nat.add_sub_cancel, Nat.div_one, List.range'_succ, List.range'_zero, List.forIn_cons, List.forIn_nil]
  go_simp
theorem neq37 (p q r : Option Addr) (w : World) : (binOp .neq 37 (.agg #[.pointer p, .pointer q, .pointer r]) (.agg #[.pointer p, .pointer q, .pointer r])).run Yba.prog w = .ok (.bool false) w := by
  rw [run_neq_struct, eq37]
  rfl
end Go.Proofs.Ybulkdldg
