/-
  'cp := make([]FundedAccount, len(fund)); copy(cp, fund)': elements of two cells.
-/
import Derived.Test.YbulkdlbqTally
import Derived.Laws.CopyOwn
import Derived.Laws.MakeOwn
namespace Go.Proofs.Ybulkdlbq
open Go.RowKit

theorem run_copy_rowK {P : Program} (w : World) (dT sT ty elem : TypeId) (g o dLen dCap : Nat) (a : Addr) (sLen sCap size : Nat) (cur : Array Value) (t : TypeId) (cs : List Value)
    (hu : P.underlying dT = some (.slice elem)) (hs : (P.info? elem).map (·.size) = some size)
    (hg : w.heap[g]? = some (.cells cur t (0, 0))) (hn : cs.length = Nat.min sLen dLen * size)
    (hsrc : ∀ j v, cs[j]? = some v → w.cell? (a.add j) = some v) (hfit : o + cs.length ≤ cur.size) (h1 : ∀ v ∈ cs, v.oneCell' = true) :
    (Builtin.copy_ #[dT, sT] ty #[.slice (some ⟨g, o, none⟩) dLen dCap, .slice (some a) sLen sCap]).run P w =
      .ok (goInt (Nat.min sLen dLen)) (w.setRow g (cur.toList.take o ++ cs ++ cur.toList.drop (o + cs.length)).toArray) := by
  have hl := run_loadCells_list (P := P) w a cs hsrc
  have hst := run_storeCells_at P g o t cs 0 cur w hg (by simpa using hfit) h1
  cases hq : P.info? elem with
  | none => simp [hq] at hs
  | some i =>
    have hi : i.size = size := by simpa [hq] using hs
    simp [Builtin.copy_, run_underlying hu, Builtin.lenOf, Builtin.firstCells, sizeOf, typeInfo, hq, hi, ← hn, hl, hst]

theorem run_copy_noneK {P : Program} (w : World) (dT sT ty elem : TypeId) (g dCap sCap size : Nat) (sp : Option Addr) (hu : P.underlying dT = some (.slice elem)) (hs : (P.info? elem).map (·.size) = some size) :
    (Builtin.copy_ #[dT, sT] ty #[.slice (some ⟨g, 0, none⟩) 0 dCap, .slice sp 0 sCap]).run P w = .ok (goInt 0) w := by
  cases hq : P.info? elem with
  | none => simp [hq] at hs
  | some i =>
    have hl : ∀ a, (loadCells a 0).run P w = .ok #[] w := fun a => by simpa using run_loadCells_list (P := P) w a [] (by simp)
    cases sp <;> simp [Builtin.copy_, run_underlying hu, Builtin.lenOf, Builtin.firstCells, sizeOf, typeInfo, hq, storeCells, hl]

theorem size60 : (Yba.prog.info? 60).map (·.size) = some 2 := by kernel_rfl
theorem info60 : (Yba.prog.info? 60).map (fun i => (i.zero, i.size, i.bytes)) = some (some (.agg #[.string ⟨#[]⟩, .int .i64 0]), 2, 24) := by kernel_rfl

theorem make_run (n : Nat) (hn : n ≤ 4096) (w : World) :
    (Instr.makeSlice 22 (.int .i64 (n : Int)) (.int .i64 (n : Int))).run Yba.prog w = .ok (.slice (some ⟨w.heap.size, 0, none⟩) n n) (w.alloc (.cells (madeCells #[.string ⟨#[]⟩, .int .i64 0] (n * 2)) 60)) := by
  obtain ⟨i, hi, hz0, hz1, hz2⟩ := info_parts info60
  have h := run_make (P := Yba.prog) w 22 60 i _ Yba.underlying22 hi hz0 .i64 .i64 (n : Int) (n : Int) (by omega) (Int.le_refl _) (by rw [hz2]; omega) (by omega)
  rw [hz1] at h
  simpa [Value.cells] using h

theorem copy_run (ao : Option Addr) (n c : Nat) (A : Nat → ByteArray) (L : Nat → Int) (w : World)
    (hcell : ∀ i, i < n → ∃ b o, ao = some ⟨b, o, none⟩ ∧ w.cell? ⟨b, o + i * 2, none⟩ = some (.string (A i)) ∧ w.cell? ⟨b, o + i * 2 + 1, none⟩ = some (.int .i64 (L i))) :
    ∃ W2, (Builtin.copy_ #[22, 22] 3 #[.slice (some ⟨w.heap.size, 0, none⟩) n n, .slice ao n c]).run Yba.prog (w.alloc (.cells (madeCells #[.string ⟨#[]⟩, .int .i64 0] (n * 2)) 60)) = .ok (goInt n) W2 ∧
      (∀ i, i < n → W2.cell? ⟨w.heap.size, i * 2, none⟩ = some (.string (A i)) ∧ W2.cell? ⟨w.heap.size, i * 2 + 1, none⟩ = some (.int .i64 (L i))) ∧ Below w.heap.size w W2 ∧ w.heap.size < W2.heap.size := by
  have hba : Below w.heap.size w (w.alloc (.cells (madeCells #[Value.string ⟨#[]⟩, .int .i64 0] (n * 2)) 60)) := (Below.refl _ _).alloc (Nat.le_refl _) _
  by_cases hn : n = 0
  · subst hn
    exact ⟨_, run_copy_noneK (P := Yba.prog) _ 22 22 3 60 w.heap.size 0 c 2 ao Yba.underlying22 size60, fun i hi => by omega, hba, by simp⟩
  · obtain ⟨b, o, rfl, _⟩ := hcell 0 (by omega)
    obtain ⟨cs, hcs⟩ : ∃ cs : List Value, cs = (List.range (n * 2)).map (fun j => if j % 2 = 0 then Value.string (A (j / 2)) else .int .i64 (L (j / 2))) := ⟨_, rfl⟩
    have hlen : cs.length = n * 2 := by rw [hcs]; simp
    have hget : ∀ j, j < n * 2 → cs[j]? = some (if j % 2 = 0 then Value.string (A (j / 2)) else .int .i64 (L (j / 2))) := by
      intro j hj
      rw [hcs, List.getElem?_map, List.getElem?_range hj]
      rfl
    have hr := run_copy_rowK (P := Yba.prog) (w.alloc (.cells (madeCells #[.string ⟨#[]⟩, .int .i64 0] (n * 2)) 60)) 22 22 3 60 w.heap.size 0 n n ⟨b, o, none⟩ n c 2 (madeCells #[.string ⟨#[]⟩, .int .i64 0] (n * 2)) 60 cs Yba.underlying22 size60 (heap_alloc_new _ _)
      (by rw [hlen]; rw [show Nat.min n n = n from Nat.min_self n])
      (fun j v hj => by
        have hjl : j < n * 2 := by have := (List.getElem?_eq_some_iff.1 hj).1; omega
        rw [hget j hjl] at hj
        obtain ⟨b', o', h1', h2', h3'⟩ := hcell (j / 2) (by omega)
        simp only [Option.some.injEq, Addr.mk.injEq, and_true] at h1'
        obtain ⟨rfl, rfl⟩ := h1'
        refine cell_later hba ?_
        rw [Addr.add_lit, ← hj]
        by_cases hm : j % 2 = 0
        · rw [if_pos hm, ← h2', show o + j = o + j / 2 * 2 by omega]
        · rw [if_neg hm, ← h3', show o + j = o + j / 2 * 2 + 1 by omega])
      (by rw [hlen, size_madeCells]; omega) (fun v hv => by
        rw [hcs] at hv
        obtain ⟨j, _, rfl⟩ := List.mem_map.1 hv
        split <;> rfl)
    rw [show Nat.min n n = n from Nat.min_self n] at hr
    have hcl : ∀ j, j < n * 2 → ((w.alloc (.cells (madeCells #[Value.string ⟨#[]⟩, .int .i64 0] (n * 2)) 60)).setRow w.heap.size ((madeCells #[Value.string ⟨#[]⟩, .int .i64 0] (n * 2)).toList.take 0 ++ cs ++ (madeCells #[Value.string ⟨#[]⟩, .int .i64 0] (n * 2)).toList.drop (0 + cs.length)).toArray).cell? ⟨w.heap.size, j, none⟩ = cs[j]? := by
      intro j hj
      unfold World.cell?
      simp only
      rw [setRow_heap _ _ _ _ 60 _ (heap_alloc_new _ _)]
      simp only [List.take_zero, List.nil_append, List.getElem?_toArray]
      rw [List.getElem?_append_left (by omega)]
      simp
    refine ⟨_, hr, ?_, below_setRow hba (Nat.le_refl _) _, by simp [World.setRow]⟩
    intro i hi
    rw [hcl (i * 2) (by omega), hcl (i * 2 + 1) (by omega), hget (i * 2) (by omega), hget (i * 2 + 1) (by omega)]
    rw [if_pos (by omega), if_neg (by omega), show i * 2 / 2 = i by omega, show (i * 2 + 1) / 2 = i by omega]
    exact ⟨rfl, rfl⟩
end Go.Proofs.Ybulkdlbq
