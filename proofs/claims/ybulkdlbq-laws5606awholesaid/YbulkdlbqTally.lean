/-
  THE WALKS of 'newTally' (function 4) and '(*tally).watchFunded' (function 5).
-/
import Derived.Test.YbulkdlbqRows
import Derived.Test.YbulkdlbqMap
import Derived.WalkSpells
import Derived.WalkLawsBesides
import Derived.Deep.LoopGhost
import Derived.BigQuiet
import Derived.Deep.QuietTactic
namespace Go.Proofs.Ybulkdlbq
open Go.RowKit

/-- What the cells of the new tally are. -/
theorem tally_built (N : Nat) : ∃ C, Yba.prog.built 57 [(8, .map (some N)), (9, .map (some (N + 1))), (10, .map (some (N + 1 + 1))), (11, .map (some (N + 1 + 1 + 1))), (13, .map (some (N + 1 + 1 + 1 + 1))), (21, .pointer (some ⟨N + 1 + 1 + 1 + 1 + 1, 0, none⟩)), (23, .pointer (some ⟨N + 1 + 1 + 1 + 1 + 1 + 1, 0, none⟩)), (24, .pointer (some ⟨N + 1 + 1 + 1 + 1 + 1 + 1 + 1, 0, none⟩)), (26, .map (some (N + 1 + 1 + 1 + 1 + 1 + 1 + 1 + 1))), (27, .map (some (N + 1 + 1 + 1 + 1 + 1 + 1 + 1 + 1 + 1))), (28, .pointer (some ⟨N + 1 + 1 + 1 + 1 + 1 + 1 + 1 + 1 + 1 + 1, 0, none⟩)), (31, .pointer (some ⟨N + 1 + 1 + 1 + 1 + 1 + 1 + 1 + 1 + 1 + 1 + 1, 0, none⟩))] = some C ∧ C[17]? = some (.map none) :=
  ⟨#[.string ⟨#[]⟩, .string ⟨#[]⟩, .bool false, .bool false, .bool false, .pointer none, .bool false, .bool false, .map (some N), .map (some (N + 1)), .map (some (N + 1 + 1)), .map (some (N + 1 + 1 + 1)), .int .i64 0, .map (some (N + 1 + 1 + 1 + 1)), .string ⟨#[]⟩, .map none, .pointer none, .map none, .pointer none, .string ⟨#[]⟩, .pointer none, .pointer (some ⟨N + 1 + 1 + 1 + 1 + 1, 0, none⟩), .int .i64 0, .int .i64 0, .int .i64 0, .int .i64 0, .pointer (some ⟨N + 1 + 1 + 1 + 1 + 1 + 1, 0, none⟩), .pointer (some ⟨N + 1 + 1 + 1 + 1 + 1 + 1 + 1, 0, none⟩), .slice none 0 0, .map (some (N + 1 + 1 + 1 + 1 + 1 + 1 + 1 + 1)), .map (some (N + 1 + 1 + 1 + 1 + 1 + 1 + 1 + 1 + 1)), .pointer (some ⟨N + 1 + 1 + 1 + 1 + 1 + 1 + 1 + 1 + 1 + 1, 0, none⟩), .int .u64 0, .string ⟨#[]⟩, .pointer (some ⟨N + 1 + 1 + 1 + 1 + 1 + 1 + 1 + 1 + 1 + 1 + 1, 0, none⟩), .slice none 0 0, .slice none 0 0, .slice none 0 0, .slice none 0 0, .int .u64 0, .bool false, .slice none 0 0, .int .u64 0], by kernel_rfl, rfl⟩

theorem wpList_build_at {P : Program} {ops : Array Oper} {rest : List Oper} {dst : Option Nat} {t ty : TypeId} {parts : Array (Nat × Operand)} {pos : String} {after : Array Edge} {a : Act} {w : World} {Q : Exit → Act → World → Prop} {C : Array Value} {l : List (Nat × Value)}
    (hb : P.built t l = some C) (hl : (parts.map fun (i, x) => (i, a.eval x)).toList = l) (h : wpList P ops Q rest (a.put dst (.agg C)) w) : wpList P ops Q (⟨dst, .build t parts, ty, pos, after, none⟩ :: rest) a w := by
  subst hl
  refine wpList_build rfl t parts rfl (by rw [hb]; rfl) ?_
  rw [hb]
  exact h

set_option maxRecDepth 100000 in
set_option maxHeartbeats 400000 in
theorem newTally_any (w : World) :
    Calls Yba.prog 4 #[] w fun e w' => ∃ T, e = .returned (.pointer (some ⟨T, 0, none⟩)) ∧ Below w.heap.size w w' ∧ w.heap.size ≤ T ∧ T < w'.heap.size ∧ (w'.cell? ⟨T, 17, none⟩).isSome = true ∧ w'.frozen? ⟨T, 17, none⟩ = false := by
  have hmm := @run_makeMap Yba.prog
  obtain ⟨C, hb, hc⟩ := tally_built w.heap.size
  have HB := hide hb
  clear hb
  go_enter Yba.func4, Yba.ntmps4
  go_wp2_with (refine wpList_build_at (t := 57) (l := _) HB.out ?hl ?_; case hl => simp [Act.eval])
  go_ret
  refine ⟨_, rfl, ?_, by omega, by simp, by rw [new_cell _ (by simp) hc]; rfl, new_frozen _ (by simp)⟩
  iterate 13 refine Below.alloc ?_ (by simp; try omega) _
  exact Below.refl _ _
end Go.Proofs.Ybulkdlbq
namespace Go.Proofs.Ybulkdlbq
open Go.RowKit

theorem zero25 (w : World) : (zeroValue 25).run Yba.prog w = .ok (.pointer none) w := by kernel_rfl

/-- How many of the first k keys are new when they come. -/
def dcTo (g : Nat → List UInt8) : Nat → Nat
  | 0 => 0
  | k + 1 => if (List.range k).any (fun j => g j == g k) then dcTo g k else dcTo g k + 1

/-- WHAT THE MAP BINDS AFTER k ROUNDS: just the first k keys, each to a state of its own, fresh and zero. -/
structure Fills (wr : World) (B : Nat) (g : Nat → List UInt8) (k : Nat) (f : List UInt8 → Option Value) : Prop where
  there : ∀ s, (f s).isSome = (List.range k).any (fun j => g j == s)
  val : ∀ s v, f s = some v → ∃ q, v = .pointer (some ⟨q, 0, none⟩) ∧ B ≤ q ∧ wr.heap[q]? = some (.cells #[.bool false, .pointer none] 28 (0, 0))
  apart : ∀ s s' v, f s = some v → f s' = some v → s = s'

theorem grown_step {w wr W2 W' : World} {T : Nat} (hg : w.grownBy wr (some T)) (hb : Below wr.heap.size wr W2) (hg' : W2.grownBy W' (some w.heap.size)) : w.grownBy W' (some T) :=
  ⟨hg'.os.trans (hb.os.trans hg.os), hg'.tape.trans (hb.tape.trans hg.tape), hg'.output.trans (hb.output.trans hg.output), Nat.le_trans hg.size (Nat.le_trans hb.size hg'.size),
    fun j hj hne => by
      have h1 := hg.size
      have h2 := hb.size
      rw [hg'.block j (by omega) (by intro h; injection h; omega), hb.block j (by omega), hg.block j hj hne]⟩

theorem any_snoc (g : Nat → List UInt8) (k : Nat) (s : List UInt8) : (List.range (k + 1)).any (fun j => g j == s) = ((List.range k).any (fun j => g j == s) || g k == s) := by
  rw [List.range_succ, List.any_append]
  simp

theorem lt_of_heap {w : World} {q : Nat} {o : Obj} (h : w.heap[q]? = some o) : q < w.heap.size := (Array.getElem?_eq_some_iff.1 h).1

theorem Fills.step {wr W2 W' : World} {B M q : Nat} {g : Nat → List UInt8} {k : Nat} {f : List UInt8 → Option Value} (h : Fills wr B g k f) (hb : Below wr.heap.size wr W2) (hg' : W2.grownBy W' (some M)) (hM : M < B) (hq : wr.heap.size ≤ q) (hBq : B ≤ q)
    (hq0 : W2.heap[q]? = some (.cells #[.bool false, .pointer none] 28 (0, 0))) : Fills W' B g (k + 1) (bind f (g k) (.pointer (some ⟨q, 0, none⟩))) where
  there s := by
    rw [any_snoc, ← h.there s]
    by_cases hs : s = g k
    · subst hs; simp [bind]
    · have : (g k == s) = false := by simpa using fun e => hs e.symm
      simp [bind, hs, this]
  val s v hv := by
    have hz := hb.size
    by_cases hs : s = g k
    · simp [bind, hs] at hv
      subst hv
      exact ⟨q, rfl, hBq, (hg'.block q (lt_of_heap hq0) (by simp; omega)).trans hq0⟩
    · simp [bind, hs] at hv
      obtain ⟨q', e1, e2, e3⟩ := h.val s v hv
      have hlt := lt_of_heap e3
      exact ⟨q', e1, e2, (hg'.block q' (by omega) (by simp; omega)).trans ((hb.block q' hlt).trans e3)⟩
  apart s s' v hv hv' := by
    by_cases hs : s = g k
    · by_cases hs' : s' = g k
      · rw [hs, hs']
      · simp [bind, hs] at hv
        simp [bind, hs'] at hv'
        obtain ⟨q', e1, _, e3⟩ := h.val s' v hv'
        have hlt := lt_of_heap e3
        rw [← hv] at e1
        injection e1 with e1
        injection e1 with e1
        injection e1 with e1
        omega
    · by_cases hs' : s' = g k
      · simp [bind, hs] at hv
        simp [bind, hs'] at hv'
        obtain ⟨q', e1, _, e3⟩ := h.val s v hv
        have hlt := lt_of_heap e3
        rw [← hv'] at e1
        injection e1 with e1
        injection e1 with e1
        injection e1 with e1
        omega
      · simp [bind, hs] at hv
        simp [bind, hs'] at hv'
        exact h.apart s s' v hv hv'

set_option maxRecDepth 100000 in
set_option maxHeartbeats 400000 in
theorem watch_any (T : Nat) (ao : Option Addr) (n c : Nat) (A : Nat → ByteArray) (L : Nat → Int) (w : World) (hn : n ≤ 4096) (hA : ∀ i, i < n → (A i).size ≤ maxLen)
    (hT : (w.cell? ⟨T, 17, none⟩).isSome = true) (hTf : w.frozen? ⟨T, 17, none⟩ = false)
    (hcell : ∀ i, i < n → ∃ b o, ao = some ⟨b, o, none⟩ ∧ b ≠ T ∧ w.cell? ⟨b, o + i * 2, none⟩ = some (.string (A i)) ∧ w.cell? ⟨b, o + i * 2 + 1, none⟩ = some (.int .i64 (L i))) :
    Calls Yba.prog 5 #[.pointer (some ⟨T, 0, none⟩), .slice ao n c] w fun e w' => e = .returned (.tuple #[]) ∧ w.grownBy w' (some T) ∧ w'.cell? ⟨T, 17, none⟩ = some (.map (some w.heap.size)) ∧
      ∃ f, SM Yba.prog 9 w' w.heap.size n (dcTo (fun i => (A i).data.toList) n) f ∧ Fills w' (w.heap.size + 1) (fun i => (A i).data.toList) n f := by
  obtain ⟨tv, hT⟩ := Option.isSome_iff_exists.1 hT
  have hTlt : T < w.heap.size := World.block_lt_of_cell? w ⟨T, 17, none⟩ hT
  have HC := hide hcell
  have HA := hide hA
  clear hcell hA
  have hmm : ∀ w' : World, (Instr.makeMap 29 (some (.int .i64 (n : Int)))).run Yba.prog w' = .ok (.map (some w'.heap.size)) (w'.alloc (.map #[] 0)) := fun _ => by kernel_rfl
  go_enter Yba.func5, Yba.ntmps5
  go_wp2_with fail
  go_loopg [14] n (fun gk i wr => ∃ (k : Nat) (f : List UInt8 → Option Value), gk + k = n ∧ i = .int .i64 k ∧ w.grownBy wr (some T) ∧ w.heap.size < wr.heap.size ∧ wr.cell? ⟨T, 17, none⟩ = some (.map (some w.heap.size)) ∧
    SM Yba.prog 9 wr w.heap.size k (dcTo (fun i => (A i).data.toList) k) f ∧ Fills wr (w.heap.size + 1) (fun i => (A i).data.toList) k f)
  case atStart =>
    refine ⟨0, fun _ => none, by omega, rfl, ⟨rfl, rfl, rfl, by simp, fun j hj hne => ?_⟩, by simp, ?_, ?_, ⟨fun _ => rfl, (fun _ _ h => by cases h), (fun _ _ _ h => by cases h)⟩⟩
    · rw [Below.heap_alloc _ _ _ (by simpa using hj), Below.heap_setCell _ _ _ _ (fun e => hne (by rw [e]))]
    · rw [World.cell?_alloc_old _ _ _ (by simp; omega)]
      exact World.cell?_setCell_same _ _ _ hT
    · have h := SM.made (w.setCell ⟨T, 17, none⟩ (.map (some w.heap.size))) Yba.prog 9
      simpa [dcTo] using h
  case round =>
    obtain ⟨k, f, hk, rfl, hg, hlt, hTc, hsm, hfi⟩ := hrel
    have HG := hide hg
    have HSM := hide hsm
    have HFI := hide hfi
    clear hg hsm hfi
    by_cases hkn : k < n
    · obtain ⟨b, o, rfl, hbT, c0, c1⟩ := HC.out k hkn
      have d0 : wr.cell? ⟨b, o + k * 2, none⟩ = some (.string (A k)) := HG.out.cell c0 (by simpa using hbT)
      have d1 : wr.cell? ⟨b, o + k * 2 + 1, none⟩ = some (.int .i64 (L k)) := HG.out.cell c1 (by simpa using hbT)
      clear c0 c1
      have hkn' : (k : Int) < (n : Int) := by omega
      have hTr : T < wr.heap.size := by omega
      obtain ⟨W', hrun, hsm', hg'⟩ := SM.upd (P := Yba.prog) (e := 25) (w := ((wr.alloc (.cells #[.string (A k), .int .i64 (L k)] 60)).alloc (.cells #[.bool false, .pointer none] 28)).drew) (t := 29)
        (HSM.out.below ((((Below.refl _ wr).alloc (Nat.le_refl _) _).alloc (by simp) _).drew) (by omega)) Yba.underlying9 Yba.underlying29 (by unfold maxLen; omega) (A k) (HA.out k hkn) (.pointer (some ⟨wr.heap.size + 1, 0, none⟩))
      have HSM' := hide hsm'
      have HG' := hide hg'
      clear hsm' hg'
      go_wp2_with fail
      go_region
      go_wp2
      go_roundg (gk - 1)
      case measure => omega
      case rel =>
        have hbw : Below wr.heap.size wr ((wr.alloc (.cells #[.string (A k), .int .i64 (L k)] 60)).alloc (.cells #[.bool false, .pointer none] 28)).drew := (((Below.refl _ wr).alloc (Nat.le_refl _) _).alloc (by simp) _).drew
        have hz := hbw.size
        have hz' := HG'.out.size
        refine ⟨k + 1, _, by omega, by go_num, grown_step HG.out hbw HG'.out, by omega, ?_, ?_, Fills.step HFI.out hbw HG'.out (by omega) (q := wr.heap.size + 1) (by omega) (by omega) ?_⟩
        · exact HG'.out.cell ((hbw.cell (p := ⟨T, 17, none⟩) hTr).trans hTc) (by simp; omega)
        · have h := HSM'.out
          rw [HFI.out.there] at h
          exact h
        · exact new_block _ (by simp)
    · obtain rfl : k = n := by omega
      go_wp2_with fail
      go_end0
      exact ⟨rfl, HG.out, hTc, f, HSM.out, HFI.out⟩
end Go.Proofs.Ybulkdlbq
