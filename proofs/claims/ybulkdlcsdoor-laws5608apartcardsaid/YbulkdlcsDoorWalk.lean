/-
  THE WALKS: the table (function 4), replyStop (5), the law (3).
-/
import Derived.Test.YbulkdlcsDoorRows
import Derived.WalkKit
import Derived.WalkSpells
import Derived.WalkLawsBesides
import Derived.Deep.LoopGhost
namespace Go.Proofs.YbulkdlcsDoor
open Go.RowKit

/-- The table's words, and what each means. -/
def word : Nat → ByteArray
  | 0 => ⟨#[83, 84, 79, 80]⟩
  | 1 => ⟨#[77, 65, 88, 95, 84, 79, 75, 69, 78, 83]⟩
  | 2 => ⟨#[83, 65, 70, 69, 84, 89]⟩
  | 3 => ⟨#[82, 69, 67, 73, 84, 65, 84, 73, 79, 78]⟩
  | 4 => ⟨#[66, 76, 79, 67, 75, 76, 73, 83, 84]⟩
  | 5 => ⟨#[80, 82, 79, 72, 73, 66, 73, 84, 69, 68, 95, 67, 79, 78, 84, 69, 78, 84]⟩
  | 6 => ⟨#[83, 80, 73, 73]⟩
  | 7 => ⟨#[73, 77, 65, 71, 69, 95, 83, 65, 70, 69, 84, 89]⟩
  | 8 => ⟨#[73, 77, 65, 71, 69, 95, 80, 82, 79, 72, 73, 66, 73, 84, 69, 68, 95, 67, 79, 78, 84, 69, 78, 84]⟩
  | _ => ⟨#[73, 77, 65, 71, 69, 95, 82, 69, 67, 73, 84, 65, 84, 73, 79, 78]⟩
def reason : Nat → ByteArray
  | 0 => ⟨#[101, 110, 100]⟩
  | 1 => ⟨#[108, 101, 110, 103, 116, 104]⟩
  | 2 => ⟨#[102, 105, 108, 116, 101, 114, 101, 100]⟩
  | 3 => ⟨#[102, 105, 108, 116, 101, 114, 101, 100]⟩
  | 4 => ⟨#[102, 105, 108, 116, 101, 114, 101, 100]⟩
  | 5 => ⟨#[102, 105, 108, 116, 101, 114, 101, 100]⟩
  | 6 => ⟨#[102, 105, 108, 116, 101, 114, 101, 100]⟩
  | 7 => ⟨#[102, 105, 108, 116, 101, 114, 101, 100]⟩
  | 8 => ⟨#[102, 105, 108, 116, 101, 114, 101, 100]⟩
  | _ => ⟨#[102, 105, 108, 116, 101, 114, 101, 100]⟩

theorem new_cell (w : World) {C : Array Value} {t : TypeId} {i N : Nat} {v : Value} (hN : N = w.heap.size) (h : C[i]? = some v) : (w.alloc (.cells C t)).cell? ⟨N, i, none⟩ = some v := by
  subst hN
  simp only [World.cell?, heap_alloc_new, h]
  rfl

set_option maxRecDepth 100000 in
set_option maxHeartbeats 400000 in
theorem table_any (w : World) :
    Calls Ybad.prog 4 #[] w fun e w' => e = .returned (.tuple #[.slice (some ⟨w.heap.size, 0, none⟩) 10 10, .slice (some ⟨w.heap.size + 1, 0, none⟩) 10 10]) ∧ Below w.heap.size w w' ∧
      (∀ k, k < 10 → w'.cell? ⟨w.heap.size, k, none⟩ = some (.string (word k))) ∧ ∀ k, k < 10 → w'.cell? ⟨w.heap.size + 1, k, none⟩ = some (.string (reason k)) := by
  go_enter Ybad.func4, Ybad.ntmps4
  go_wp2
  go_ret2
  refine ⟨rfl, ((Below.refl _ _).alloc (Nat.le_refl _) _).alloc (by simp) _, fun k hk => ?_, fun k hk => ?_⟩
  · rw [World.cell?_alloc_old _ _ _ (by simp)]
    match k, hk with
    | 0, _ => exact new_cell _ rfl rfl
    | 1, _ => exact new_cell _ rfl rfl
    | 2, _ => exact new_cell _ rfl rfl
    | 3, _ => exact new_cell _ rfl rfl
    | 4, _ => exact new_cell _ rfl rfl
    | 5, _ => exact new_cell _ rfl rfl
    | 6, _ => exact new_cell _ rfl rfl
    | 7, _ => exact new_cell _ rfl rfl
    | 8, _ => exact new_cell _ rfl rfl
    | 9, _ => exact new_cell _ rfl rfl
  · match k, hk with
    | 0, _ => exact new_cell _ (by simp) rfl
    | 1, _ => exact new_cell _ (by simp) rfl
    | 2, _ => exact new_cell _ (by simp) rfl
    | 3, _ => exact new_cell _ (by simp) rfl
    | 4, _ => exact new_cell _ (by simp) rfl
    | 5, _ => exact new_cell _ (by simp) rfl
    | 6, _ => exact new_cell _ (by simp) rfl
    | 7, _ => exact new_cell _ (by simp) rfl
    | 8, _ => exact new_cell _ (by simp) rfl
    | 9, _ => exact new_cell _ (by simp) rfl

/-- What a reply's word means, by the map. -/
def got (look : ByteArray → Option ByteArray) (s : ByteArray) : ByteArray := (look s).getD ⟨#[111, 116, 104, 101, 114]⟩

theorem reply_map (look : ByteArray → Option ByteArray) (bm : Nat) (s : ByteArray) (calls : Int) (w : World) (hc : w.cell? ⟨0, 0, none⟩ = some (.map (some bm))) (hcl : ¬ 0 < calls)
    (hl : (Instr.lookup 30 (.map (some bm)) (.string s) true).run Ybad.prog w = .ok (.tuple #[.string ((look s).getD ⟨#[]⟩), .bool (look s).isSome]) w) :
    Calls Ybad.prog 5 #[.string s, .int .i64 calls] w fun e w' => e = .returned (.string (got look s)) ∧ w' = w := by
  unfold got
  cases h : look s with
  | none =>
    rw [h] at hl
    simp only [Option.getD_none, Option.isSome_none] at hl
    clear h
    go_enter Ybad.func5, Ybad.ntmps5
    go_wp2
    go_ret
    exact ⟨rfl, rfl⟩
  | some v =>
    rw [h] at hl
    simp only [Option.getD_some, Option.isSome_some] at hl
    clear h
    go_enter Ybad.func5, Ybad.ntmps5
    go_wp2
    go_ret
    exact ⟨rfl, rfl⟩

theorem reply_calls (s : ByteArray) (calls : Int) (w : World) (hcl : 0 < calls) :
    Calls Ybad.prog 5 #[.string s, .int .i64 calls] w fun e w' => e = .returned (.string ⟨#[116, 111, 111, 108, 95, 117, 115, 101]⟩) ∧ w' = w := by
  go_enter Ybad.func5, Ybad.ntmps5
  go_wp2
  go_ret
  exact ⟨rfl, rfl⟩
end Go.Proofs.YbulkdlcsDoor
