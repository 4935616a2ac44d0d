/-
  THE WALKS: (*share).count (function 6) and the law's model (function 4).
-/
import Derived.Test.YbulkdldgRows
import Derived.WalkKit
import Derived.WalkSpells
import Derived.WalkLawsBesides
import Derived.Deep.LoopGhost
import Derived.BigQuiet
import Derived.Deep.QuietTactic
namespace Go.Proofs.Ybulkdldg
open Go.RowKit

theorem hide {p : Prop} (h : p) : Hid p := h

theorem count_nil (w : World) : Calls Yba.prog 6 #[.pointer none] w fun e w' => e = .returned (.int .i64 0) ∧ w' = w := by
  go_enter Yba.func6, Yba.ntmps6
  go_wp2
  go_ret
  exact ⟨rfl, rfl⟩

theorem count_some (q : Nat) (h : Int) (w : World) (hc : w.cell? ⟨q, 4, none⟩ = some (.int .i64 h)) : Calls Yba.prog 6 #[.pointer (some ⟨q, 0, none⟩)] w fun e w' => e = .returned (.int .i64 h) ∧ w' = w := by
  go_enter Yba.func6, Yba.ntmps6
  go_wp2
  go_ret
  exact ⟨rfl, rfl⟩

/-- Three cells of a block, which may be written. -/
def Row3 (w : World) (b : Nat) (f : Nat → Value) : Prop := ∀ i, i < 3 → w.cell? ⟨b, i, none⟩ = some (f i) ∧ w.frozen? ⟨b, i, none⟩ = false

theorem Row3.lt {w : World} {b : Nat} {f : Nat → Value} (h : Row3 w b f) : b < w.heap.size := World.block_lt_of_cell? w ⟨b, 0, none⟩ (h 0 (by omega)).1
theorem Row3.new (w : World) (t : TypeId) (a b c : Value) (f : Nat → Value) (h0 : f 0 = a) (h1 : f 1 = b) (h2 : f 2 = c) {N : Nat} (hN : N = w.heap.size) : Row3 (w.alloc (.cells #[a, b, c] t)) N f := by
  subst hN h0 h1 h2
  intro i hi
  refine ⟨?_, ?_⟩
  · simp only [World.cell?, heap_alloc_new]
    match i, hi with
    | 0, _ => rfl
    | 1, _ => rfl
    | 2, _ => rfl
  · simp only [World.frozen?, heap_alloc_new]
    simp
theorem Row3.below {w w' : World} {b B : Nat} {f : Nat → Value} (h : Row3 w b f) (hB : Below B w w') (hb : b < B) : Row3 w' b f := fun i hi =>
  ⟨(hB.cell (p := ⟨b, i, none⟩) hb).trans (h i hi).1, (hB.frozen (p := ⟨b, i, none⟩) hb).trans (h i hi).2⟩
theorem Row3.alloc {w : World} {b : Nat} {f : Nat → Value} (h : Row3 w b f) (o : Obj) : Row3 (w.alloc o) b f := h.below ((Below.refl _ _).alloc (Nat.le_refl _) o) h.lt
theorem Row3.set {w : World} {b k : Nat} {f : Nat → Value} (h : Row3 w b f) (hk : k < 3) (v : Value) : Row3 (w.setCell ⟨b, k, none⟩ v) b (fun i => if i = k then v else f i) := by
  intro i hi
  refine ⟨?_, by rw [World.frozen?_setCell]; exact (h i hi).2⟩
  by_cases e : i = k
  · subst e
    rw [World.cell?_setCell_same _ _ _ (h i hi).1]
    simp
  · rw [World.cell?_setCell_other _ _ _ _ (by intro e'; injection e' with _ e' _; exact e e'.symm), (h i hi).1]
    simp [e]
theorem Row3.other {w : World} {b b' k : Nat} {f : Nat → Value} (h : Row3 w b f) (hb : b' ≠ b) (v : Value) : Row3 (w.setCell ⟨b', k, none⟩ v) b f := by
  intro i hi
  exact ⟨by rw [World.cell?_setCell_other _ _ _ _ (by intro e'; injection e' with e' _ _; exact hb e')]; exact (h i hi).1, by rw [World.frozen?_setCell]; exact (h i hi).2⟩
theorem Row3.congr {w : World} {b : Nat} {f g : Nat → Value} (h : Row3 w b f) (hfg : ∀ i, i < 3 → f i = g i) : Row3 w b g := fun i hi => by
  rw [← hfg i hi]
  exact h i hi

/-- What evensOut answers, off the counts and off where the shares are the same. -/
def evensB (cc dc : Nat → Int) (same : Nat → Bool) : Bool :=
  if cc 2 == 0 then true else if !same 0 then decide (wrap64 (cc 0 + 2) ≤ dc 0) else if !same 1 then decide (wrap64 (cc 1 + 2) ≤ dc 1) else if !same 2 then decide (wrap64 (cc 2 + 2) ≤ dc 2) else false

/-- The model's three arrays. -/
def ccOf (ch ck : Nat → Int) (i : Nat) : Int := if ck i % 2 == 0 then 0 else ch i
def dcOf (ch dh ck dk : Nat → Int) (i : Nat) : Int := if dk i % 3 == 1 then dh i else if dk i % 3 == 2 then ccOf ch ck i else 0
def sameOf (ck dk : Nat → Int) (i : Nat) : Bool := (ck i % 2 == 0 && dk i % 3 == 0) || dk i % 3 == 2

theorem upd_lt {F : Nat → Int} {k : Nat} {X : Value} (hX : X = .int .i64 (F k)) (i : Nat) : (if i = k then X else .int .i64 (if i < k then F i else 0)) = .int .i64 (if i < k + 1 then F i else 0) := by
  by_cases h : i = k
  · subst h; simp [hX]
  · have e : (i < k + 1) = (i < k) := by simp; omega
    simp [h, e]
theorem upd_ltB {F : Nat → Bool} {k : Nat} {X : Value} (hX : X = .bool (F k)) (i : Nat) : (if i = k then X else .bool (if i < k then F i else false)) = .bool (if i < k + 1 then F i else false) := by
  by_cases h : i = k
  · subst h; simp [hX]
  · have e : (i < k + 1) = (i < k) := by simp; omega
    simp [h, e]
theorem keep_lt {F : Nat → Int} {k : Nat} (hF : F k = 0) (i : Nat) : Value.int .i64 (if i < k then F i else 0) = .int .i64 (if i < k + 1 then F i else 0) := by
  by_cases h : i = k
  · subst h; simp [hF]
  · have e : (i < k + 1) = (i < k) := by simp; omega
    simp [e]

theorem evens_zero {cc dc : Nat → Int} {sm : Nat → Bool} (h : cc 2 = 0) : evensB cc dc sm = true := by simp [evensB, h]
theorem evens_none {cc dc : Nat → Int} {sm : Nat → Bool} (h : cc 2 ≠ 0) (hs : ∀ j, j < 3 → sm j = true) : evensB cc dc sm = false := by
  simp [evensB, h, hs 0 (by omega), hs 1 (by omega), hs 2 (by omega)]
theorem evens_at {cc dc : Nat → Int} {sm : Nat → Bool} {k : Nat} (hk : k < 3) (h : cc 2 ≠ 0) (hs : ∀ j, j < k → sm j = true) (hn : sm k = false) : evensB cc dc sm = decide (wrap64 (cc k + 2) ≤ dc k) := by
  match k, hk with
  | 0, _ => simp [evensB, h, hn]
  | 1, _ => simp [evensB, h, hn, hs 0 (by omega)]
  | 2, _ => simp [evensB, h, hn, hs 0 (by omega), hs 1 (by omega)]

set_option linter.unusedSimpArgs false in
set_option maxRecDepth 100000 in
set_option maxHeartbeats 400000 in
theorem model_any (ch dh ck dk : Nat → Int) (w : World) (hck : ∀ i, 0 ≤ ck i ∧ ck i ≤ 255) (hdk : ∀ i, 0 ≤ dk i ∧ dk i ≤ 255) :
    Calls Yba.prog 4 #[.agg #[.int .i64 (ch 0), .int .i64 (ch 1), .int .i64 (ch 2)], .agg #[.int .i64 (dh 0), .int .i64 (dh 1), .int .i64 (dh 2)], .agg #[.int .u8 (ck 0), .int .u8 (ck 1), .int .u8 (ck 2)], .agg #[.int .u8 (dk 0), .int .u8 (dk 1), .int .u8 (dk 2)]] w
      fun e w' => e = .returned (.bool (evensB (ccOf ch ck) (dcOf ch dh ck dk) (sameOf ck dk))) ∧ Below w.heap.size w w' := by
  have HCK := hide hck
  have HDK := hide hdk
  clear hck hdk
  go_enter Yba.func4, Yba.ntmps4
  go_wp2_with fail
  go_loopg [12] 3 (fun gk i wr => ∃ (k : Nat), gk + k = 3 ∧ i = .int .i64 k ∧ Below w.heap.size w wr ∧
    Row3 wr w.heap.size (fun i => .int .i64 (ch i)) ∧ Row3 wr (w.heap.size + 1) (fun i => .int .i64 (dh i)) ∧ Row3 wr (w.heap.size + 1 + 1) (fun i => .int .u8 (ck i)) ∧ Row3 wr (w.heap.size + 1 + 1 + 1) (fun i => .int .u8 (dk i)) ∧
    Row3 wr (w.heap.size + 1 + 1 + 1 + 1) (fun i => .int .i64 (if i < k then ccOf ch ck i else 0)) ∧ Row3 wr (w.heap.size + 1 + 1 + 1 + 1 + 1) (fun i => .int .i64 (if i < k then dcOf ch dh ck dk i else 0)) ∧
    Row3 wr (w.heap.size + 1 + 1 + 1 + 1 + 1 + 1) (fun i => .bool (if i < k then sameOf ck dk i else false)))
  case atStart =>
    refine ⟨0, rfl, rfl, ?_, ?_, ?_, ?_, ?_, ?_, ?_, ?_⟩
    · iterate 7 refine Below.alloc ?_ (by simp; try omega) _
      exact Below.refl _ _
    · iterate 6 refine Row3.alloc ?_ _
      exact Row3.new _ _ _ _ _ (fun i => .int .i64 (ch i)) rfl rfl rfl rfl
    · iterate 5 refine Row3.alloc ?_ _
      exact Row3.new _ _ _ _ _ (fun i => .int .i64 (dh i)) rfl rfl rfl (by simp only [World.size_alloc])
    · iterate 4 refine Row3.alloc ?_ _
      exact Row3.new _ _ _ _ _ (fun i => .int .u8 (ck i)) rfl rfl rfl (by simp only [World.size_alloc])
    · iterate 3 refine Row3.alloc ?_ _
      exact Row3.new _ _ _ _ _ (fun i => .int .u8 (dk i)) rfl rfl rfl (by simp only [World.size_alloc])
    · iterate 2 refine Row3.alloc ?_ _
      exact Row3.new _ _ _ _ _ (fun i => .int .i64 (if i < 0 then ccOf ch ck i else 0)) rfl rfl rfl (by simp only [World.size_alloc])
    · iterate 1 refine Row3.alloc ?_ _
      exact Row3.new _ _ _ _ _ (fun i => .int .i64 (if i < 0 then dcOf ch dh ck dk i else 0)) rfl rfl rfl (by simp only [World.size_alloc])
    · exact Row3.new _ _ _ _ _ (fun i => .bool (if i < 0 then sameOf ck dk i else false)) rfl rfl rfl (by simp only [World.size_alloc])
  case round =>
    obtain ⟨k, hk, rfl, hbw, r0, r1, r2, r3, r4, r5, r6⟩ := hrel
    have HBW := hide hbw
    have R0 := hide r0
    have R1 := hide r1
    have R2 := hide r2
    have R3 := hide r3
    have R4 := hide r4
    have R5 := hide r5
    have R6 := hide r6
    clear hbw r0 r1 r2 r3 r4 r5 r6
    by_cases hk3 : k < 3
    · have hk3' : (k : Int) < 3 := by omega
      obtain ⟨c0, _⟩ := R0.out k hk3
      obtain ⟨c1, _⟩ := R1.out k hk3
      obtain ⟨c2, _⟩ := R2.out k hk3
      obtain ⟨c3, _⟩ := R3.out k hk3
      obtain ⟨c4, f4⟩ := R4.out k hk3
      obtain ⟨c5, f5⟩ := R5.out k hk3
      obtain ⟨c6, f6⟩ := R6.out k hk3
      have b2 := HCK.out k
      have b3 := HDK.out k
      simp only [Nat.lt_irrefl, if_false] at c4 c5 c6
      rcases (by omega : ck k % 2 = 0 ∨ ck k % 2 = 1) with e2 | e2 <;> rcases (by omega : dk k % 3 = 0 ∨ dk k % 3 = 1 ∨ dk k % 3 = 2) with e3 | e3 | e3
      · have HCC : Hid (ccOf ch ck k = 0) := by show _ = _; simp [ccOf, e2]
        have HDC : Hid (dcOf ch dh ck dk k = 0) := by show _ = _; simp [dcOf, ccOf, e2, e3]
        have HSM : Hid (sameOf ck dk k = true) := by show _ = _; simp [sameOf, e2, e3]
        go_wp2
        go_roundg (gk - 1)
        case measure => omega
        case rel =>
          exact ⟨k + 1, by omega, by go_num, (HBW.out).setCell (by dsimp only; omega) _, (R0.out).other (by omega) _, (R1.out).other (by omega) _, (R2.out).other (by omega) _, (R3.out).other (by omega) _, ((R4.out).other (by omega) _).congr (fun i _ => keep_lt HCC.out i), ((R5.out).other (by omega) _).congr (fun i _ => keep_lt HDC.out i), ((R6.out).set hk3 _).congr (fun i _ => upd_ltB (by rw [HSM.out]) i)⟩
      · have HCC : Hid (ccOf ch ck k = 0) := by show _ = _; simp [ccOf, e2]
        have HDC : Hid (dcOf ch dh ck dk k = dh k) := by show _ = _; simp [dcOf, ccOf, e2, e3]
        have HSM : Hid (sameOf ck dk k = false) := by show _ = _; simp [sameOf, e2, e3]
        go_wp2
        go_roundg (gk - 1)
        case measure => omega
        case rel =>
          exact ⟨k + 1, by omega, by go_num, ((HBW.out).setCell (by dsimp only; omega) _).setCell (by dsimp only; omega) _, ((R0.out).other (by omega) _).other (by omega) _, ((R1.out).other (by omega) _).other (by omega) _, ((R2.out).other (by omega) _).other (by omega) _, ((R3.out).other (by omega) _).other (by omega) _, (((R4.out).other (by omega) _).other (by omega) _).congr (fun i _ => keep_lt HCC.out i), (((R5.out).set hk3 _).other (by omega) _).congr (fun i _ => upd_lt (by rw [HDC.out]) i), (((R6.out).other (by omega) _).set hk3 _).congr (fun i _ => upd_ltB (by rw [HSM.out]) i)⟩
      · have HCC : Hid (ccOf ch ck k = 0) := by show _ = _; simp [ccOf, e2]
        have HDC : Hid (dcOf ch dh ck dk k = 0) := by show _ = _; simp [dcOf, ccOf, e2, e3]
        have HSM : Hid (sameOf ck dk k = true) := by show _ = _; simp [sameOf, e2, e3]
        go_wp2
        go_roundg (gk - 1)
        case measure => omega
        case rel =>
          exact ⟨k + 1, by omega, by go_num, ((HBW.out).setCell (by dsimp only; omega) _).setCell (by dsimp only; omega) _, ((R0.out).other (by omega) _).other (by omega) _, ((R1.out).other (by omega) _).other (by omega) _, ((R2.out).other (by omega) _).other (by omega) _, ((R3.out).other (by omega) _).other (by omega) _, (((R4.out).other (by omega) _).other (by omega) _).congr (fun i _ => keep_lt HCC.out i), (((R5.out).set hk3 _).other (by omega) _).congr (fun i _ => upd_lt (by rw [HDC.out]) i), (((R6.out).other (by omega) _).set hk3 _).congr (fun i _ => upd_ltB (by rw [HSM.out]) i)⟩
      · have HCC : Hid (ccOf ch ck k = ch k) := by show _ = _; simp [ccOf, e2]
        have HDC : Hid (dcOf ch dh ck dk k = 0) := by show _ = _; simp [dcOf, ccOf, e2, e3]
        have HSM : Hid (sameOf ck dk k = false) := by show _ = _; simp [sameOf, e2, e3]
        go_wp2
        go_roundg (gk - 1)
        case measure => omega
        case rel =>
          exact ⟨k + 1, by omega, by go_num, ((HBW.out).setCell (by dsimp only; omega) _).setCell (by dsimp only; omega) _, ((R0.out).other (by omega) _).other (by omega) _, ((R1.out).other (by omega) _).other (by omega) _, ((R2.out).other (by omega) _).other (by omega) _, ((R3.out).other (by omega) _).other (by omega) _, (((R4.out).set hk3 _).other (by omega) _).congr (fun i _ => upd_lt (by rw [HCC.out]) i), (((R5.out).other (by omega) _).other (by omega) _).congr (fun i _ => keep_lt HDC.out i), (((R6.out).other (by omega) _).set hk3 _).congr (fun i _ => upd_ltB (by rw [HSM.out]) i)⟩
      · have HCC : Hid (ccOf ch ck k = ch k) := by show _ = _; simp [ccOf, e2]
        have HDC : Hid (dcOf ch dh ck dk k = dh k) := by show _ = _; simp [dcOf, ccOf, e2, e3]
        have HSM : Hid (sameOf ck dk k = false) := by show _ = _; simp [sameOf, e2, e3]
        go_wp2
        go_roundg (gk - 1)
        case measure => omega
        case rel =>
          exact ⟨k + 1, by omega, by go_num, (((HBW.out).setCell (by dsimp only; omega) _).setCell (by dsimp only; omega) _).setCell (by dsimp only; omega) _, (((R0.out).other (by omega) _).other (by omega) _).other (by omega) _, (((R1.out).other (by omega) _).other (by omega) _).other (by omega) _, (((R2.out).other (by omega) _).other (by omega) _).other (by omega) _, (((R3.out).other (by omega) _).other (by omega) _).other (by omega) _, ((((R4.out).set hk3 _).other (by omega) _).other (by omega) _).congr (fun i _ => upd_lt (by rw [HCC.out]) i), ((((R5.out).other (by omega) _).set hk3 _).other (by omega) _).congr (fun i _ => upd_lt (by rw [HDC.out]) i), ((((R6.out).other (by omega) _).other (by omega) _).set hk3 _).congr (fun i _ => upd_ltB (by rw [HSM.out]) i)⟩
      · have HCC : Hid (ccOf ch ck k = ch k) := by show _ = _; simp [ccOf, e2]
        have HDC : Hid (dcOf ch dh ck dk k = ch k) := by show _ = _; simp [dcOf, ccOf, e2, e3]
        have HSM : Hid (sameOf ck dk k = true) := by show _ = _; simp [sameOf, e2, e3]
        go_wp2
        go_roundg (gk - 1)
        case measure => omega
        case rel =>
          exact ⟨k + 1, by omega, by go_num, (((HBW.out).setCell (by dsimp only; omega) _).setCell (by dsimp only; omega) _).setCell (by dsimp only; omega) _, (((R0.out).other (by omega) _).other (by omega) _).other (by omega) _, (((R1.out).other (by omega) _).other (by omega) _).other (by omega) _, (((R2.out).other (by omega) _).other (by omega) _).other (by omega) _, (((R3.out).other (by omega) _).other (by omega) _).other (by omega) _, ((((R4.out).set hk3 _).other (by omega) _).other (by omega) _).congr (fun i _ => upd_lt (by rw [HCC.out]) i), ((((R5.out).other (by omega) _).set hk3 _).other (by omega) _).congr (fun i _ => upd_lt (by rw [HDC.out]) i), ((((R6.out).other (by omega) _).other (by omega) _).set hk3 _).congr (fun i _ => upd_ltB (by rw [HSM.out]) i)⟩
    · obtain rfl : k = 3 := by omega
      obtain ⟨c42, _⟩ := R4.out 2 (by omega)
      simp only [Nat.reduceLT, if_true] at c42
      by_cases hz : ccOf ch ck 2 = 0
      · have HE := hide (evens_zero (dc := dcOf ch dh ck dk) (sm := sameOf ck dk) hz)
        rw [hz] at c42
        clear hz
        go_wp2
        go_ret
        exact ⟨by rw [HE.out]; rfl, HBW.out⟩
      · have hz' : (ccOf ch ck 2 == 0) = false := by simpa using hz
        have HZ := hide hz
        clear hz
        go_wp2_with fail
        go_loopg [15] 3 (fun gk i wq => ∃ (k : Nat), gk + k = 3 ∧ i = .int .i64 k ∧ wq = wr ∧ Hid (∀ j, j < k → sameOf ck dk j = true))
        case atStart => exact ⟨0, rfl, rfl, rfl, fun j hj => by omega⟩
        case round =>
          obtain ⟨k, hk2, rfl, hwq, HJ⟩ := hrel
          rw [hwq]
          clear hwq
          by_cases hk3 : k < 3
          · have hk3' : (k : Int) < 3 := by omega
            obtain ⟨c4, _⟩ := R4.out k hk3
            obtain ⟨c5, _⟩ := R5.out k hk3
            obtain ⟨c6, _⟩ := R6.out k hk3
            simp only [hk3, if_true] at c4 c5 c6
            cases hs : sameOf ck dk k with
            | false =>
              rw [hs] at c6
              have HE := hide (evens_at (dc := dcOf ch dh ck dk) hk3 HZ.out HJ.out hs)
              clear hs
              go_wp2
              go_ret
              exact ⟨by rw [HE.out]; rfl, HBW.out⟩
            | true =>
              rw [hs] at c6
              have HS := hide hs
              clear hs
              go_wp2
              go_roundg (3 - (k + 1))
              case measure => omega
              case rel =>
                refine ⟨k + 1, by omega, by go_num, rfl, fun j hj => ?_⟩
                by_cases e : j = k
                · rw [e]; exact HS.out
                · exact HJ.out j (by omega)
          · obtain rfl : k = 3 := by omega
            have HE := hide (evens_none (dc := dcOf ch dh ck dk) HZ.out HJ.out)
            go_wp2
            go_ret
            exact ⟨by rw [HE.out]; rfl, HBW.out⟩
end Go.Proofs.Ybulkdldg
