/-
  A REGION THAT DRAWS, whose callees make memory and change none; THE WALK of (Time).Sub.
-/
import Derived.Test.YbulkdlbcDoorTime
namespace Go.Proofs.YbulkdlbcDoor
open Go.RowKit

/-- A world later than 'W' in which all that 'W' holds reads as it did. -/
structure Aft (W : World) where
  u : World
  h : Below W.heap.size W u

instance (W : World) : Nonempty (Aft W) := ⟨⟨W, Below.refl _ _⟩⟩

theorem Aft.cell {W : World} (x : Aft W) {p : Addr} {v : Value} (h : W.cell? p = some v) : x.u.cell? p = some v := (x.h.cell (World.block_lt_of_cell? W p h)).trans h

theorem wp_region_aft {P : Program} {id : Nat} {Q : Exit → Act → World → Prop} {a : Act} {w : World} {l : List Oper} (hm : P.follows .mixedOrders = true) (hB : Region.lexB .any l.toArray = true)
    (h : wpQuiet P l.toArray (fun w' => ∃ x : Aft w, w' = x.u) (fun a' => ∀ w', (∃ x : Aft w, w' = x.u) → Q .normal a' w') l a) : (Code.region id l.toArray true).wp P Q a w :=
  wp_region_quiet (C := fun w' => ∃ x : Aft w, w' = x.u) hm hB ⟨⟨w.drew, (Below.refl _ _).drew⟩, rfl⟩ (by simpa using h)

theorem aft_of {P : Program} {f : FuncId} {args : Array Value} {W : World} {x : Aft W} {v : Value} (h : Calls P f args x.u fun e w' => e = .returned v ∧ Below x.u.heap.size x.u w') :
    Calls P f args x.u fun e w'' => e = .returned v ∧ ∃ y : Aft W, w'' = y.u :=
  h.mono fun _ w' h => ⟨h.1, ⟨w', x.h.trans (h.2.mono x.h.size)⟩, rfl⟩

def subD (a1 e1 a2 e2 : Int) : Int := wrap64 (wrap64 (wrap64 (e1 - e2) * 1000000000) + (a1 - a2))
theorem subD_bounds (a1 e1 a2 e2 : Int) : -9223372036854775808 ≤ subD a1 e1 a2 e2 ∧ subD a1 e1 a2 e2 ≤ 9223372036854775807 := by
  unfold subD
  generalize wrap64 (wrap64 (e1 - e2) * 1000000000) + (a1 - a2) = x
  unfold wrap64
  omega
def subF (a1 e1 a2 e2 : Int) : Int :=
  if (decide (addE a2 e2 (subD a1 e1 a2 e2) = e1) && decide (addW a2 (subD a1 e1 a2 e2) = a1)) = true then subD a1 e1 a2 e2
  else if (decide (e1 < e2) || (decide (e1 = e2) && decide (a1 < a2))) = true then -9223372036854775808 else 9223372036854775807

set_option maxRecDepth 100000 in
set_option maxHeartbeats 400000 in
theorem sub_any (a1 e1 a2 e2 : Int) (w : World) (h1 : 0 ≤ a1) (h1' : a1 < 1000000000) (h2 : 0 ≤ a2) (h2' : a2 < 1000000000) :
    Calls Ybad.prog 6 #[.agg #[.int .u64 a1, .int .i64 e1, .pointer none], .agg #[.int .u64 a2, .int .i64 e2, .pointer none]] w fun e' w' => e' = .returned (.int .i64 (subF a1 e1 a2 e2)) ∧ Below w.heap.size w w' := by
  have b1 := and_both h1 h1' h2 h2'
  go_enter Ybad.func6, Ybad.ntmps6
  go_wp2_with fail
  refine (sec_call w.heap.size a1 e1 _ h1 h1' (by simp) (by simp)).mono ?_
  rintro e' w' ⟨rfl, hw⟩
  rw [hw]
  clear hw
  go_wp2_with fail
  refine (sec_call (w.heap.size + 1) a2 e2 _ h2 h2' (by simp) (by simp)).mono ?_
  rintro e' w' ⟨rfl, hw⟩
  rw [hw]
  clear hw
  go_wp2_with fail
  refine (nsec_call w.heap.size a1 _ h1 h1' (by simp)).mono ?_
  rintro e' w' ⟨rfl, hw⟩
  rw [hw]
  clear hw
  go_wp2_with fail
  refine (nsec_call (w.heap.size + 1) a2 _ h2 h2' (by simp)).mono ?_
  rintro e' w' ⟨rfl, hw⟩
  rw [hw]
  clear hw
  go_wp2_with fail
  have hdd : wrap64 (wrap64 (wrap64 (e1 - e2) * 1000000000) + (a1 - a2)) = subD a1 e1 a2 e2 := rfl
  rw [hdd]
  clear hdd
  obtain ⟨hd0, hd1⟩ := subD_bounds a1 e1 a2 e2
  obtain ⟨u0, u1⟩ := addW_bounds (d := subD a1 e1 a2 e2) h2 h2'
  generalize hW : ((w.alloc (.cells #[.int .u64 a1, .int .i64 e1, .pointer none] 26)).alloc (.cells #[.int .u64 a2, .int .i64 e2, .pointer none] 26)) = W
  have BW : Hid (Below w.heap.size w W) := by
    show Below _ _ _
    rw [← hW]
    iterate 2 refine Below.alloc ?_ (by simp; try omega) _
    exact Below.refl _ _
  have c0 : W.cell? ⟨w.heap.size, 0, none⟩ = some (.int .u64 a1) := by rw [← hW]; simp
  have c1 : W.cell? ⟨w.heap.size, 1, none⟩ = some (.int .i64 e1) := by rw [← hW]; simp
  have c2 : W.cell? ⟨w.heap.size, 2, none⟩ = some (.pointer none) := by rw [← hW]; simp
  have d0 : W.cell? ⟨w.heap.size + 1, 0, none⟩ = some (.int .u64 a2) := by rw [← hW]; simp
  have d1 : W.cell? ⟨w.heap.size + 1, 1, none⟩ = some (.int .i64 e2) := by rw [← hW]; simp
  have d2 : W.cell? ⟨w.heap.size + 1, 2, none⟩ = some (.pointer none) := by rw [← hW]; simp
  clear hW
  have x0 := fun x : Aft W => x.cell c0
  have x1 := fun x : Aft W => x.cell c1
  have x2 := fun x : Aft W => x.cell c2
  have y0 := fun x : Aft W => x.cell d0
  have y1 := fun x : Aft W => x.cell d1
  have y2 := fun x : Aft W => x.cell d2
  refine wp_region_aft (by kernel_rfl) (by kernel_rfl) ?_
  repeat (go_big_quiet_step ((first | (go_at_call 4; exact aft_of (add_any a2 e2 (subD a1 e1 a2 e2) _ h2 h2' hd0 hd1)) | (go_at_call 15; exact aft_of (equal_any (addW a2 (subD a1 e1 a2 e2)) (addE a2 e2 (subD a1 e1 a2 e2)) a1 e1 _ u0 u1 h1 h1')))))
  refine wpQuiet_nil ?_
  rintro w' ⟨x, rfl⟩
  have BX := hide (BW.out.trans (x.h.mono BW.out.size))
  by_cases hq : (decide (addE a2 e2 (subD a1 e1 a2 e2) = e1) && decide (addW a2 (subD a1 e1 a2 e2) = a1)) = true
  · have HF : Hid (subF a1 e1 a2 e2 = subD a1 e1 a2 e2) := by show _ = _; unfold subF; rw [if_pos hq]
    rw [hq]
    clear hq
    go_wp2
    go_ret
    exact ⟨by rw [HF.out]; rfl, BX.out⟩
  · have hq' : (decide (addE a2 e2 (subD a1 e1 a2 e2) = e1) && decide (addW a2 (subD a1 e1 a2 e2) = a1)) = false := by simpa using hq
    rw [hq']
    clear hq'
    go_wp2_with fail
    refine (before_any a1 e1 a2 e2 _ h1 h1' h2 h2').mono ?_
    rintro e' w' ⟨rfl, hw⟩
    have BY := hide (BX.out.trans (hw.mono BX.out.size))
    clear hw
    cases hb : (decide (e1 < e2) || (decide (e1 = e2) && decide (a1 < a2))) with
    | true =>
      have HF : Hid (subF a1 e1 a2 e2 = -9223372036854775808) := by show _ = _; unfold subF; rw [if_neg hq, if_pos hb]
      clear hb
      go_wp2
      go_ret
      exact ⟨by rw [HF.out]; rfl, BY.out⟩
    | false =>
      have HF : Hid (subF a1 e1 a2 e2 = 9223372036854775807) := by show _ = _; unfold subF; rw [if_neg hq, if_neg (by rw [hb]; simp)]
      clear hb
      go_wp2
      go_ret
      exact ⟨by rw [HF.out]; rfl, BY.out⟩
end Go.Proofs.YbulkdlbcDoor
