/-
  THE WALK of the law 'LawS5609CWhole' (function 3).
-/
import Derived.Test.YbulkdldgEq
import Derived.Deep.CutRange
namespace Go.Proofs.Ybulkdldg
open Go.RowKit

/-- Three cells of a block from 'o' on, which may be written. -/
def RowAt (w : World) (b o : Nat) (f : Nat → Value) : Prop := ∀ i, i < 3 → w.cell? ⟨b, o + i, none⟩ = some (f i) ∧ w.frozen? ⟨b, o + i, none⟩ = false
theorem RowAt.lt {w : World} {b o : Nat} {f : Nat → Value} (h : RowAt w b o f) : b < w.heap.size := World.block_lt_of_cell? w ⟨b, o + 0, none⟩ (h 0 (by omega)).1
theorem RowAt.below {w w' : World} {b o B : Nat} {f : Nat → Value} (h : RowAt w b o f) (hB : Below B w w') (hb : b < B) : RowAt w' b o f := fun i hi =>
  ⟨(hB.cell (p := ⟨b, o + i, none⟩) hb).trans (h i hi).1, (hB.frozen (p := ⟨b, o + i, none⟩) hb).trans (h i hi).2⟩
theorem RowAt.alloc {w : World} {b o : Nat} {f : Nat → Value} (h : RowAt w b o f) (x : Obj) : RowAt (w.alloc x) b o f := h.below ((Below.refl _ _).alloc (Nat.le_refl _) x) h.lt
theorem RowAt.set {w : World} {b o k : Nat} {f : Nat → Value} (h : RowAt w b o f) (hk : k < 3) (v : Value) : RowAt (w.setCell ⟨b, o + k, none⟩ v) b o (fun i => if i = k then v else f i) := by
  intro i hi
  refine ⟨?_, by rw [World.frozen?_setCell]; exact (h i hi).2⟩
  by_cases e : i = k
  · subst e
    rw [World.cell?_setCell_same _ _ _ (h i hi).1]
    simp
  · rw [World.cell?_setCell_other _ _ _ _ (by intro e'; injection e' with _ e' _; omega), (h i hi).1]
    simp [e]
theorem RowAt.other {w : World} {b b' o k : Nat} {f : Nat → Value} (h : RowAt w b o f) (hb : b' ≠ b) (v : Value) : RowAt (w.setCell ⟨b', k, none⟩ v) b o f := by
  intro i hi
  exact ⟨by rw [World.cell?_setCell_other _ _ _ _ (by intro e'; injection e' with e' _ _; exact hb e')]; exact (h i hi).1, by rw [World.frozen?_setCell]; exact (h i hi).2⟩
theorem RowAt.congr {w : World} {b o : Nat} {f g : Nat → Value} (h : RowAt w b o f) (hfg : ∀ i, i < 3 → f i = g i) : RowAt w b o g := fun i hi => by
  rw [← hfg i hi]
  exact h i hi

/-- A share that counts 'h'. -/
def Share (w : World) (q : Nat) (h : Int) : Prop := ∃ C, w.heap[q]? = some (.cells C 66 (0, 0)) ∧ C[4]? = some (.int .i64 h)
theorem Share.same {w w' : World} {q : Nat} {h : Int} (s : Share w q h) (e : w'.heap[q]? = w.heap[q]?) : Share w' q h := let ⟨C, a, b⟩ := s; ⟨C, e.trans a, b⟩
theorem Share.lt {w : World} {q : Nat} {h : Int} (s : Share w q h) : q < w.heap.size := let ⟨_, a, _⟩ := s; (Array.getElem?_eq_some_iff.1 a).1

/-- What one level holds. -/
def Level (w : World) (N : Nat) (ck dk ch dh : Int) (p d : Option Addr) : Prop :=
  ((ck % 2 = 0 ∧ p = none) ∨ (ck % 2 = 1 ∧ ∃ q, N ≤ q ∧ p = some ⟨q, 0, none⟩ ∧ Share w q ch)) ∧
  ((dk % 3 = 0 ∧ d = none) ∨ (dk % 3 = 1 ∧ ∃ q, N ≤ q ∧ d = some ⟨q, 0, none⟩ ∧ Share w q dh ∧ p ≠ some ⟨q, 0, none⟩) ∨ (dk % 3 = 2 ∧ d = p))
theorem Level.kept {w w' : World} {N : Nat} {ck dk ch dh : Int} {p d : Option Addr} (h : Level w N ck dk ch dh p d) (hw : ∀ q, N ≤ q → q < w.heap.size → w'.heap[q]? = w.heap[q]?) : Level w' N ck dk ch dh p d := by
  obtain ⟨h1, h2⟩ := h
  refine ⟨?_, ?_⟩
  · rcases h1 with h1 | ⟨a, q, b, c, s⟩
    · exact .inl h1
    · exact .inr ⟨a, q, b, c, s.same (hw q b s.lt)⟩
  · rcases h2 with h2 | ⟨a, q, b, c, s, e⟩ | h2
    · exact .inl h2
    · exact .inr (.inl ⟨a, q, b, c, s.same (hw q b s.lt), e⟩)
    · exact .inr (.inr h2)

theorem drew_heap (w : World) : w.drew.heap = w.heap := rfl
theorem new_block (w : World) {o : Obj} {N : Nat} (hN : N = w.heap.size) : (w.alloc o).heap[N]? = some o := by
  subst hN
  exact heap_alloc_new _ _
theorem RowAt.new (w : World) (t : TypeId) (cs : Array Value) (o : Nat) (f : Nat → Value) (h0 : cs[o + 0]? = some (f 0)) (h1 : cs[o + 1]? = some (f 1)) (h2 : cs[o + 2]? = some (f 2)) {N : Nat} (hN : N = w.heap.size) : RowAt (w.alloc (.cells cs t)) N o f := by
  subst hN
  intro i hi
  refine ⟨?_, ?_⟩
  · simp only [World.cell?, heap_alloc_new]
    match i, hi with
    | 0, _ => exact h0
    | 1, _ => exact h1
    | 2, _ => exact h2
  · simp only [World.frozen?, heap_alloc_new]
    simp

/-- What a level says of the counts and of the sameness. -/
theorem Level.facts {w : World} {N : Nat} {ch dh ck dk : Nat → Int} {cp dp : Nat → Option Addr} {i : Nat} (h : Level w N (ck i) (dk i) (ch i) (dh i) (cp i) (dp i)) :
    Counts w (cp i) (ccOf ch ck i) ∧ Counts w (dp i) (dcOf ch dh ck dk i) ∧ ∀ q : Nat, (binOp .neq 36 (.pointer (cp i)) (.pointer (dp i))).run Yba.prog (w.drewN q) = .ok (.bool (!sameOf ck dk i)) (w.drewN q) := by
  have cell : ∀ {q : Nat} {h : Int}, Share w q h → w.cell? ⟨q, 4, none⟩ = some (.int .i64 h) := by
    rintro q h ⟨C, hC, h4⟩
    simp only [World.cell?, hC]
    exact h4
  obtain ⟨h1, h2⟩ := h
  have hc : Counts w (cp i) (ccOf ch ck i) := by
    rcases h1 with ⟨a, b⟩ | ⟨a, q, _, b, s⟩
    · exact .inl ⟨b, by simp [ccOf, a]⟩
    · exact .inr ⟨q, b, by rw [cell s]; simp [ccOf, a]⟩
  refine ⟨hc, ?_, ?_⟩
  · rcases h2 with ⟨a, b⟩ | ⟨a, q, _, b, s, _⟩ | ⟨a, b⟩
    · exact .inl ⟨b, by simp [dcOf, a]⟩
    · exact .inr ⟨q, b, by rw [cell s]; simp [dcOf, a]⟩
    · rw [b]
      have e : dcOf ch dh ck dk i = ccOf ch ck i := by simp [dcOf, a]
      rw [e]
      exact hc
  · intro q'
    rcases h2 with ⟨a, b⟩ | ⟨a, q, _, b, s, hne⟩ | ⟨a, b⟩
    · rcases h1 with ⟨c, d⟩ | ⟨c, q, _, d, s⟩
      · rw [b, d, neq_same]
        simp [sameOf, a, c]
      · rw [b, d, neq_some_nil]
        simp [sameOf, a, c]
    · rcases h1 with ⟨c, d⟩ | ⟨c, q2, _, d, s2⟩
      · rw [b, d, neq_nil_some]
        simp [sameOf, a]
      · rw [d] at hne
        obtain ⟨C, hC, _⟩ := s
        obtain ⟨C2, hC2, _⟩ := s2
        rw [b, d, neq_other (w.drewN q') (fun e => hne (by rw [e])) (ca := C2) (cb := C) (ta := 66) (tb := 66) hC2 hC]
        simp [sameOf, a]
    · rw [b, neq_same]
      simp [sameOf, a]

theorem ptr_upd {cp : Nat → Option Addr} {k : Nat} {P : Option Addr} (i : Nat) : (if i = k then Value.pointer P else .pointer (if i < k then cp i else none)) = .pointer (if i < k + 1 then (if i = k then P else cp i) else none) := by
  by_cases h : i = k
  · subst h; simp
  · have e : (i < k + 1) = (i < k) := by simp; omega
    simp [h, e]
theorem ptr_keep {cp : Nat → Option Addr} {k : Nat} (i : Nat) : Value.pointer (if i < k then cp i else none) = .pointer (if i < k + 1 then (if i = k then none else cp i) else none) := by
  by_cases h : i = k
  · subst h; simp
  · have e : (i < k + 1) = (i < k) := by simp; omega
    simp [h, e]

set_option maxRecDepth 100000 in
set_option maxHeartbeats 1600000 in
theorem law_walk (ch dh ck dk : Nat → Int) (w : World) (hck : ∀ i, 0 ≤ ck i ∧ ck i ≤ 255) (hdk : ∀ i, 0 ≤ dk i ∧ dk i ≤ 255) :
    Calls Yba.prog 3 #[.agg #[.int .i64 (ch 0), .int .i64 (ch 1), .int .i64 (ch 2)], .agg #[.int .i64 (dh 0), .int .i64 (dh 1), .int .i64 (dh 2)], .agg #[.int .u8 (ck 0), .int .u8 (ck 1), .int .u8 (ck 2)], .agg #[.int .u8 (dk 0), .int .u8 (dk 1), .int .u8 (dk 2)]] w
      fun e w' => e = .returned (.bool true) ∧ Below w.heap.size w w' := by
  have HCK := hide hck
  have HDK := hide hdk
  clear hck hdk
  go_enter Yba.func3, Yba.ntmps3
  go_wp2_with fail
  go_loopg [11] 3 (fun gk i wr => ∃ (k : Nat) (cp dp : Nat → Option Addr), gk + k = 3 ∧ i = .int .i64 k ∧ Below w.heap.size w wr ∧ w.heap.size + 1 + 1 + 1 + 1 + 1 + 1 ≤ wr.heap.size ∧
    Row3 wr w.heap.size (fun i => .int .i64 (ch i)) ∧ Row3 wr (w.heap.size + 1) (fun i => .int .i64 (dh i)) ∧ Row3 wr (w.heap.size + 1 + 1) (fun i => .int .u8 (ck i)) ∧ Row3 wr (w.heap.size + 1 + 1 + 1) (fun i => .int .u8 (dk i)) ∧
    RowAt wr (w.heap.size + 1 + 1 + 1 + 1) 5 (fun i => .pointer (if i < k then cp i else none)) ∧ RowAt wr (w.heap.size + 1 + 1 + 1 + 1 + 1) 5 (fun i => .pointer (if i < k then dp i else none)) ∧
    ∀ i, i < k → Level wr (w.heap.size + 1 + 1 + 1 + 1 + 1 + 1) (ck i) (dk i) (ch i) (dh i) (cp i) (dp i))
  case atStart =>
    refine ⟨0, fun _ => none, fun _ => none, rfl, rfl, ?_, by simp, ?_, ?_, ?_, ?_, ?_, ?_, fun i hi => by omega⟩
    · iterate 6 refine Below.alloc ?_ (by simp; try omega) _
      exact Below.refl _ _
    · iterate 5 refine Row3.alloc ?_ _
      exact Row3.new _ _ _ _ _ (fun i => .int .i64 (ch i)) rfl rfl rfl rfl
    · iterate 4 refine Row3.alloc ?_ _
      exact Row3.new _ _ _ _ _ (fun i => .int .i64 (dh i)) rfl rfl rfl (by simp only [World.size_alloc])
    · iterate 3 refine Row3.alloc ?_ _
      exact Row3.new _ _ _ _ _ (fun i => .int .u8 (ck i)) rfl rfl rfl (by simp only [World.size_alloc])
    · iterate 2 refine Row3.alloc ?_ _
      exact Row3.new _ _ _ _ _ (fun i => .int .u8 (dk i)) rfl rfl rfl (by simp only [World.size_alloc])
    · iterate 1 refine RowAt.alloc ?_ _
      exact RowAt.new _ _ _ _ _ rfl rfl rfl (by simp only [World.size_alloc])
    · exact RowAt.new _ _ _ _ _ rfl rfl rfl (by simp only [World.size_alloc])
  case round =>
    obtain ⟨k, cp, dp, hk, rfl, hbw, hsz, r0, r1, r2, r3, r4, r5, hlv⟩ := hrel
    have HBW := hide hbw
    have R0 := hide r0
    have R1 := hide r1
    have R2 := hide r2
    have R3 := hide r3
    have R4 := hide r4
    have R5 := hide r5
    have HLV := hide hlv
    clear hbw r0 r1 r2 r3 r4 r5 hlv
    by_cases hk3 : k < 3
    · have hk3' : (k : Int) < 3 := by omega
      obtain ⟨c0, _⟩ := R0.out k hk3
      obtain ⟨c1, _⟩ := R1.out k hk3
      obtain ⟨c2, _⟩ := R2.out k hk3
      obtain ⟨c3, _⟩ := R3.out k hk3
      obtain ⟨c4, f4⟩ := R4.out k hk3
      obtain ⟨c5, f5⟩ := R5.out k hk3
      have b2 := HCK.out k
      have b3 := HDK.out k
      have l1 : w.heap.size + 1 < wr.heap.size := by omega
      have l3 : w.heap.size + 1 + 1 + 1 < wr.heap.size + 1 := by omega
      have l1' : w.heap.size + 1 < wr.heap.size + 1 := by omega
      have l3' : w.heap.size + 1 + 1 + 1 < wr.heap.size := by omega
      have l4 : w.heap.size + 1 + 1 + 1 + 1 < wr.heap.size := by omega
      have l5 : w.heap.size + 1 + 1 + 1 + 1 + 1 < wr.heap.size := by omega
      have l4' : w.heap.size + 1 + 1 + 1 + 1 < wr.heap.size + 1 := by omega
      have l5' : w.heap.size + 1 + 1 + 1 + 1 + 1 < wr.heap.size + 1 := by omega
      simp only [Nat.lt_irrefl, if_false] at c4 c5
      rcases (by omega : ck k % 2 = 0 ∨ ck k % 2 = 1) with e2 | e2 <;> rcases (by omega : dk k % 3 = 0 ∨ dk k % 3 = 1 ∨ dk k % 3 = 2) with e3 | e3 | e3
      · go_wp2_with fail
        go_roundg (3 - (k + 1))
        case measure => omega
        case rel =>
          refine ⟨k + 1, fun i => if i = k then none else cp i, fun i => if i = k then none else dp i, by omega, by go_num, HBW.out, by omega, R0.out, R1.out, R2.out, R3.out, (R4.out).congr (fun i _ => ptr_keep i), (R5.out).congr (fun i _ => ptr_keep i), fun i hi => ?_⟩
          by_cases e : i = k
          · subst e
            simp only [if_true]
            exact ⟨Or.inl ⟨e2, rfl⟩, Or.inl ⟨e3, rfl⟩⟩
          · simp only [e, if_false]
            refine (HLV.out i (by omega)).kept (fun q h1 h2 => ?_)
            rfl
      · go_wp2_with fail
        go_region
        go_wp2
        go_roundg (3 - (k + 1))
        case measure => omega
        case rel =>
          refine ⟨k + 1, fun i => if i = k then none else cp i, fun i => if i = k then some ⟨wr.heap.size, 0, none⟩ else dp i, by omega, by go_num, (((HBW.out).setCell (by dsimp only; omega) _).alloc (by simp; omega) _).drew, by simp; omega, ((R0.out).other (by omega) _).alloc _, ((R1.out).other (by omega) _).alloc _, ((R2.out).other (by omega) _).alloc _, ((R3.out).other (by omega) _).alloc _, (((R4.out).other (by omega) _).alloc _).congr (fun i _ => ptr_keep i), (((R5.out).set hk3 _).alloc _).congr (fun i _ => ptr_upd i), fun i hi => ?_⟩
          by_cases e : i = k
          · subst e
            simp only [if_true]
            exact ⟨Or.inl ⟨e2, rfl⟩, Or.inr (Or.inl ⟨e3, wr.heap.size, by omega, rfl, ⟨_, new_block _ (by simp), rfl⟩, by simp⟩)⟩
          · simp only [e, if_false]
            refine (HLV.out i (by omega)).kept (fun q h1 h2 => ?_)
            simp only [drew_heap]
            rw [Below.heap_alloc _ _ _ (by simp; omega), Below.heap_setCell _ _ _ _ (by dsimp only; omega)]
      · go_wp2_with fail
        go_region
        go_wp2
        go_roundg (3 - (k + 1))
        case measure => omega
        case rel =>
          refine ⟨k + 1, fun i => if i = k then none else cp i, fun i => if i = k then none else dp i, by omega, by go_num, ((HBW.out).setCell (by dsimp only; omega) _).drew, by simp; omega, (R0.out).other (by omega) _, (R1.out).other (by omega) _, (R2.out).other (by omega) _, (R3.out).other (by omega) _, ((R4.out).other (by omega) _).congr (fun i _ => ptr_keep i), ((R5.out).set hk3 _).congr (fun i _ => ptr_upd i), fun i hi => ?_⟩
          by_cases e : i = k
          · subst e
            simp only [if_true]
            exact ⟨Or.inl ⟨e2, rfl⟩, Or.inr (Or.inr ⟨e3, rfl⟩)⟩
          · simp only [e, if_false]
            refine (HLV.out i (by omega)).kept (fun q h1 h2 => ?_)
            simp only [drew_heap]
            rw [Below.heap_setCell _ _ _ _ (by dsimp only; omega)]
      · go_wp2_with fail
        go_region
        go_wp2
        go_roundg (3 - (k + 1))
        case measure => omega
        case rel =>
          refine ⟨k + 1, fun i => if i = k then some ⟨wr.heap.size, 0, none⟩ else cp i, fun i => if i = k then none else dp i, by omega, by go_num, (((HBW.out).setCell (by dsimp only; omega) _).alloc (by simp; omega) _).drew, by simp; omega, ((R0.out).other (by omega) _).alloc _, ((R1.out).other (by omega) _).alloc _, ((R2.out).other (by omega) _).alloc _, ((R3.out).other (by omega) _).alloc _, (((R4.out).set hk3 _).alloc _).congr (fun i _ => ptr_upd i), (((R5.out).other (by omega) _).alloc _).congr (fun i _ => ptr_keep i), fun i hi => ?_⟩
          by_cases e : i = k
          · subst e
            simp only [if_true]
            exact ⟨Or.inr ⟨e2, wr.heap.size, by omega, rfl, ⟨_, new_block _ (by simp), rfl⟩⟩, Or.inl ⟨e3, rfl⟩⟩
          · simp only [e, if_false]
            refine (HLV.out i (by omega)).kept (fun q h1 h2 => ?_)
            simp only [drew_heap]
            rw [Below.heap_alloc _ _ _ (by simp; omega), Below.heap_setCell _ _ _ _ (by dsimp only; omega)]
      · go_wp2_with fail
        go_region
        go_wp2_with fail
        go_region
        go_wp2
        go_roundg (3 - (k + 1))
        case measure => omega
        case rel =>
          refine ⟨k + 1, fun i => if i = k then some ⟨wr.heap.size, 0, none⟩ else cp i, fun i => if i = k then some ⟨wr.heap.size + 1, 0, none⟩ else dp i, by omega, by go_num, (((((HBW.out).setCell (by dsimp only; omega) _).setCell (by dsimp only; omega) _).alloc (by simp; omega) _).alloc (by simp; omega) _).drew.drew, by simp; omega, ((((R0.out).other (by omega) _).other (by omega) _).alloc _).alloc _, ((((R1.out).other (by omega) _).other (by omega) _).alloc _).alloc _, ((((R2.out).other (by omega) _).other (by omega) _).alloc _).alloc _, ((((R3.out).other (by omega) _).other (by omega) _).alloc _).alloc _, (((((R4.out).set hk3 _).other (by omega) _).alloc _).alloc _).congr (fun i _ => ptr_upd i), (((((R5.out).other (by omega) _).set hk3 _).alloc _).alloc _).congr (fun i _ => ptr_upd i), fun i hi => ?_⟩
          by_cases e : i = k
          · subst e
            simp only [if_true]
            exact ⟨Or.inr ⟨e2, wr.heap.size, by omega, rfl, ⟨_, (Below.heap_alloc _ _ _ (by simp)).trans (new_block _ (by simp)), rfl⟩⟩, Or.inr (Or.inl ⟨e3, wr.heap.size + 1, by omega, rfl, ⟨_, new_block _ (by simp), rfl⟩, by simp⟩)⟩
          · simp only [e, if_false]
            refine (HLV.out i (by omega)).kept (fun q h1 h2 => ?_)
            simp only [drew_heap]
            rw [Below.heap_alloc _ _ _ (by simp; omega), Below.heap_alloc _ _ _ (by simp; omega), Below.heap_setCell _ _ _ _ (by dsimp only; omega), Below.heap_setCell _ _ _ _ (by dsimp only; omega)]
      · go_wp2_with fail
        go_region
        go_wp2_with fail
        go_region
        go_wp2
        go_roundg (3 - (k + 1))
        case measure => omega
        case rel =>
          refine ⟨k + 1, fun i => if i = k then some ⟨wr.heap.size, 0, none⟩ else cp i, fun i => if i = k then some ⟨wr.heap.size, 0, none⟩ else dp i, by omega, by go_num, ((((HBW.out).setCell (by dsimp only; omega) _).setCell (by dsimp only; omega) _).alloc (by simp; omega) _).drew.drew, by simp; omega, (((R0.out).other (by omega) _).other (by omega) _).alloc _, (((R1.out).other (by omega) _).other (by omega) _).alloc _, (((R2.out).other (by omega) _).other (by omega) _).alloc _, (((R3.out).other (by omega) _).other (by omega) _).alloc _, ((((R4.out).set hk3 _).other (by omega) _).alloc _).congr (fun i _ => ptr_upd i), ((((R5.out).other (by omega) _).set hk3 _).alloc _).congr (fun i _ => ptr_upd i), fun i hi => ?_⟩
          by_cases e : i = k
          · subst e
            simp only [if_true]
            exact ⟨Or.inr ⟨e2, wr.heap.size, by omega, rfl, ⟨_, new_block _ (by simp), rfl⟩⟩, Or.inr (Or.inr ⟨e3, rfl⟩)⟩
          · simp only [e, if_false]
            refine (HLV.out i (by omega)).kept (fun q h1 h2 => ?_)
            simp only [drew_heap]
            rw [Below.heap_alloc _ _ _ (by simp; omega), Below.heap_setCell _ _ _ _ (by dsimp only; omega), Below.heap_setCell _ _ _ _ (by dsimp only; omega)]
    · obtain rfl : k = 3 := by omega
      obtain ⟨p00, _⟩ := R0.out 0 (by omega)
      obtain ⟨p01, _⟩ := R0.out 1 (by omega)
      obtain ⟨p02, _⟩ := R0.out 2 (by omega)
      obtain ⟨p10, _⟩ := R1.out 0 (by omega)
      obtain ⟨p11, _⟩ := R1.out 1 (by omega)
      obtain ⟨p12, _⟩ := R1.out 2 (by omega)
      obtain ⟨p20, _⟩ := R2.out 0 (by omega)
      obtain ⟨p21, _⟩ := R2.out 1 (by omega)
      obtain ⟨p22, _⟩ := R2.out 2 (by omega)
      obtain ⟨p30, _⟩ := R3.out 0 (by omega)
      obtain ⟨p31, _⟩ := R3.out 1 (by omega)
      obtain ⟨p32, _⟩ := R3.out 2 (by omega)
      obtain ⟨p40, _⟩ := R4.out 0 (by omega)
      obtain ⟨p41, _⟩ := R4.out 1 (by omega)
      obtain ⟨p42, _⟩ := R4.out 2 (by omega)
      obtain ⟨p50, _⟩ := R5.out 0 (by omega)
      obtain ⟨p51, _⟩ := R5.out 1 (by omega)
      obtain ⟨p52, _⟩ := R5.out 2 (by omega)
      simp only [Nat.reduceLT, Nat.reduceAdd, if_true] at p40 p41 p42 p50 p51 p52
      have l0 : w.heap.size < wr.heap.size := by omega
      have l1 : w.heap.size + 1 < wr.heap.size := by omega
      have l2 : w.heap.size + 1 + 1 < wr.heap.size := by omega
      have l3 : w.heap.size + 1 + 1 + 1 < wr.heap.size := by omega
      have l4 : w.heap.size + 1 + 1 + 1 + 1 < wr.heap.size := by omega
      have l5 : w.heap.size + 1 + 1 + 1 + 1 + 1 < wr.heap.size := by omega
      have l0' : w.heap.size < wr.heap.size + 1 := by omega
      have l1' : w.heap.size + 1 < wr.heap.size + 1 := by omega
      have l2' : w.heap.size + 1 + 1 < wr.heap.size + 1 := by omega
      have l3' : w.heap.size + 1 + 1 + 1 < wr.heap.size + 1 := by omega
      have l4' : w.heap.size + 1 + 1 + 1 + 1 < wr.heap.size + 1 := by omega
      have l5' : w.heap.size + 1 + 1 + 1 + 1 + 1 < wr.heap.size + 1 := by omega
      go_wp2_with fail
      refine (model_any ch dh ck dk _ HCK.out HDK.out).mono ?_
      rintro e wm ⟨rfl, hb⟩
      have hb0 : Below wr.heap.size wr wm := (((Below.refl _ _).alloc (Nat.le_refl _) _).alloc (by simp) _).trans (hb.mono (by simp; omega))
      have BW := hide ((HBW.out).trans (hb0.mono (by omega)))
      have CS := hide ((Row3.new wr 37 (.pointer (cp 0)) (.pointer (cp 1)) (.pointer (cp 2)) (fun i => .pointer (cp i)) rfl rfl rfl rfl).alloc (.cells #[.pointer (dp 0), .pointer (dp 1), .pointer (dp 2)] 37) |>.below hb (by simp; omega))
      have DS := hide ((Row3.new (wr.alloc (.cells #[.pointer (cp 0), .pointer (cp 1), .pointer (cp 2)] 37)) 37 (.pointer (dp 0)) (.pointer (dp 1)) (.pointer (dp 2)) (fun i => .pointer (dp i)) rfl rfl rfl (N := wr.heap.size + 1) (by simp)).below hb (by simp))
      have S0 := hide ((R0.out).below hb0 l0)
      have S1 := hide ((R1.out).below hb0 l1)
      have S3 := hide ((R3.out).below hb0 l3)
      have S4 := hide ((R4.out).below hb0 l4)
      have S5 := hide ((R5.out).below hb0 l5)
      have LV : Hid (∀ i, i < 3 → Level wm (w.heap.size + 1 + 1 + 1 + 1 + 1 + 1) (ck i) (dk i) (ch i) (dh i) (cp i) (dp i)) := fun i hi => (HLV.out i hi).kept (fun q _ h2 => hb0.block q h2)
      clear hb hb0 HBW R0 R1 R2 R3 R4 R5 HLV p00 p01 p02 p10 p11 p12 p20 p21 p22 p30 p31 p32 p40 p41 p42 p50 p51 p52 l0 l1 l2 l3 l4 l5 l0' l1' l2' l3' l4' l5'
      go_wp2_with fail
      refine (evens_any (w.heap.size + 1 + 1 + 1 + 1) (w.heap.size + 1 + 1 + 1 + 1 + 1) cp dp (ccOf ch ck) (dcOf ch dh ck dk) (sameOf ck dk) wm (fun i hi => ?_) (fun i hi => ?_) (fun i hi => (LV.out i hi).facts.1) (fun i hi => (LV.out i hi).facts.2.1) (fun i hi => (LV.out i hi).facts.2.2)).mono ?_
      · have h := (S4.out i hi).1
        simpa [hi] using h
      · have h := (S5.out i hi).1
        simpa [hi] using h
      rintro e w' ⟨rfl, q0, hw⟩
      rw [hw]
      clear hw w'
      obtain ⟨p40, _⟩ := S4.out 0 (by omega)
      obtain ⟨p41, _⟩ := S4.out 1 (by omega)
      obtain ⟨p42, _⟩ := S4.out 2 (by omega)
      obtain ⟨p50, _⟩ := S5.out 0 (by omega)
      obtain ⟨p51, _⟩ := S5.out 1 (by omega)
      obtain ⟨p52, _⟩ := S5.out 2 (by omega)
      simp only [Nat.reduceLT, Nat.reduceAdd, if_true] at p40 p41 p42 p50 p51 p52
      obtain ⟨c0, _⟩ := CS.out 0 (by omega)
      obtain ⟨c1, _⟩ := CS.out 1 (by omega)
      obtain ⟨c2, _⟩ := CS.out 2 (by omega)
      obtain ⟨d0, _⟩ := DS.out 0 (by omega)
      obtain ⟨d1, _⟩ := DS.out 1 (by omega)
      obtain ⟨d2, _⟩ := DS.out 2 (by omega)
      have hbe : (evensB (ccOf ch ck) (dcOf ch dh ck dk) (sameOf ck dk) != evensB (ccOf ch ck) (dcOf ch dh ck dk) (sameOf ck dk)) = false := by simp
      have n1 := fun q : Nat => eq37 (cp 0) (cp 1) (cp 2) (wm.drewN q)
      have n2 := fun q : Nat => eq37 (dp 0) (dp 1) (dp 2) (wm.drewN q)
      go_wp2_with fail
      go_quiet (fail)
      clear n1 n2 p40 p41 p42 p50 p51 p52 c0 c1 c2 d0 d1 d2 hbe
      go_wp2_with fail
      go_loopg [16] 3 (fun gk i wq => ∃ (k q : Nat), gk + k = 3 ∧ i = .int .i64 k ∧ wq = wm.drewN q)
      case atStart => exact ⟨0, _, rfl, rfl, by rw [World.drewN_drewN]⟩
      case round =>
        obtain ⟨k, q, hk, rfl, hwq⟩ := hrel
        rw [hwq]
        clear hwq
        by_cases hk3 : k < 3
        · have hk3' : (k : Int) < 3 := by omega
          obtain ⟨e0, _⟩ := S0.out k hk3
          obtain ⟨e1, _⟩ := S1.out k hk3
          obtain ⟨e3, _⟩ := S3.out k hk3
          obtain ⟨e4, _⟩ := S4.out k hk3
          obtain ⟨e5, _⟩ := S5.out k hk3
          simp only [hk3, if_true] at e4 e5
          have b3 := HDK.out k
          obtain ⟨h1, h2⟩ := LV.out k hk3
          have hd3 : (dk k % 3 = 1 ∧ ∃ q : Nat, dp k = some ⟨q, 0, none⟩ ∧ wm.cell? ⟨q, 4, none⟩ = some (.int .i64 (dh k))) ∨ (dk k % 3 = 0 ∨ dk k % 3 = 2) := by
            rcases h2 with ⟨a, _⟩ | ⟨a, q, _, b, ⟨C, hC, h4⟩, _⟩ | ⟨a, _⟩
            · exact .inr (.inl a)
            · refine .inl ⟨a, q, b, ?_⟩
              simp only [World.cell?, hC]
              exact h4
            · exact .inr (.inr a)
          have hc3 : (cp k = none) ∨ (∃ q : Nat, cp k = some ⟨q, 0, none⟩ ∧ wm.cell? ⟨q, 4, none⟩ = some (.int .i64 (ch k))) := by
            rcases h1 with ⟨_, a⟩ | ⟨_, q, _, b, ⟨C, hC, h4⟩⟩
            · exact .inl a
            · refine .inr ⟨q, b, ?_⟩
              simp only [World.cell?, hC]
              exact h4
          clear h1 h2
          rcases hc3 with hc3 | ⟨qc, hc3, cc3⟩
          · rw [hc3] at e4
            clear hc3
            have n1 := fun q : Nat => neq_same none (wm.drewN q)
            rcases hd3 with ⟨hd3, qd, hd4, cd3⟩ | hd3 | hd3
            · rw [hd4] at e5
              clear hd4
              go_wp2_with fail
              go_quiet (fail)
              go_wp2_with fail
              go_quiet (fail)
              go_wp2_with fail
              go_roundg (3 - (k + 1))
              case measure => omega
              case rel => exact ⟨k + 1, _, by omega, by go_num, rfl⟩
            · go_wp2_with fail
              go_quiet (fail)
              go_wp2_with fail
              go_quiet (fail)
              go_wp2_with fail
              go_roundg (3 - (k + 1))
              case measure => omega
              case rel => exact ⟨k + 1, _, by omega, by go_num, rfl⟩
            · go_wp2_with fail
              go_quiet (fail)
              go_wp2_with fail
              go_quiet (fail)
              go_wp2_with fail
              go_roundg (3 - (k + 1))
              case measure => omega
              case rel => exact ⟨k + 1, _, by omega, by go_num, rfl⟩
          · rw [hc3] at e4
            clear hc3
            have n1 := fun q : Nat => neq_some_nil ⟨qc, 0, none⟩ (wm.drewN q)
            rcases hd3 with ⟨hd3, qd, hd4, cd3⟩ | hd3 | hd3
            · rw [hd4] at e5
              clear hd4
              go_wp2_with fail
              go_quiet (fail)
              go_wp2_with fail
              go_quiet (fail)
              go_wp2_with fail
              go_roundg (3 - (k + 1))
              case measure => omega
              case rel => exact ⟨k + 1, _, by omega, by go_num, rfl⟩
            · go_wp2_with fail
              go_quiet (fail)
              go_wp2_with fail
              go_quiet (fail)
              go_wp2_with fail
              go_roundg (3 - (k + 1))
              case measure => omega
              case rel => exact ⟨k + 1, _, by omega, by go_num, rfl⟩
            · go_wp2_with fail
              go_quiet (fail)
              go_wp2_with fail
              go_quiet (fail)
              go_wp2_with fail
              go_roundg (3 - (k + 1))
              case measure => omega
              case rel => exact ⟨k + 1, _, by omega, by go_num, rfl⟩
        · obtain rfl : k = 3 := by omega
          go_wp2
          go_ret
          exact ⟨rfl, below_drewN BW.out _⟩
end Go.Proofs.Ybulkdldg
