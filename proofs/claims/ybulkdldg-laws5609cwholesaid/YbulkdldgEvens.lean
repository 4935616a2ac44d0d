/-
  THE WALK of (*heldConn).evensOut (function 5).
-/
import Derived.Test.YbulkdldgModel
import Derived.Deep.RegionWith
namespace Go.Proofs.Ybulkdldg
open Go.RowKit

/-- A share (or none) that counts 'h'. -/
def Counts (w : World) (p : Option Addr) (h : Int) : Prop := (p = none ∧ h = 0) ∨ ∃ q, p = some ⟨q, 0, none⟩ ∧ w.cell? ⟨q, 4, none⟩ = some (.int .i64 h)

theorem count_any (p : Option Addr) (h : Int) (w : World) (hp : Counts w p h) : Calls Yba.prog 6 #[.pointer p] w fun e w' => e = .returned (.int .i64 h) ∧ w' = w := by
  rcases hp with ⟨rfl, rfl⟩ | ⟨q, rfl, hc⟩
  · exact count_nil w
  · exact count_some q h w hc

set_option maxRecDepth 100000 in
set_option maxHeartbeats 400000 in
theorem evens_any (Cb Db : Nat) (cp dp : Nat → Option Addr) (cc dc : Nat → Int) (sm : Nat → Bool) (w : World)
    (hC : ∀ i, i < 3 → w.cell? ⟨Cb, 5 + i, none⟩ = some (.pointer (cp i))) (hD : ∀ i, i < 3 → w.cell? ⟨Db, 5 + i, none⟩ = some (.pointer (dp i)))
    (hcp : ∀ i, i < 3 → Counts w (cp i) (cc i)) (hdp : ∀ i, i < 3 → Counts w (dp i) (dc i))
    (heq : ∀ i, i < 3 → ∀ q : Nat, (binOp .neq 36 (.pointer (cp i)) (.pointer (dp i))).run Yba.prog (w.drewN q) = .ok (.bool (!sm i)) (w.drewN q)) :
    Calls Yba.prog 5 #[.pointer (some ⟨Cb, 0, none⟩), .pointer (some ⟨Db, 0, none⟩)] w fun e w' => e = .returned (.bool (evensB cc dc sm)) ∧ ∃ q, w' = w.drewN q := by
  have c2 : w.cell? ⟨Cb, 5 + 2, none⟩ = some (.pointer (cp 2)) := hC 2 (by omega)
  have HC := hide hC
  have HD := hide hD
  have HCP := hide hcp
  have HDP := hide hdp
  have HEQ := hide heq
  clear hC hD hcp hdp heq
  by_cases hz : cc 2 = 0
  · have HE := hide (evens_zero (dc := dc) (sm := sm) hz)
    have HZ := hide hz
    clear hz
    go_enter Yba.func5, Yba.ntmps5
    go_wp2_with fail
    refine (count_any (cp 2) (cc 2) w (HCP.out 2 (by omega))).mono ?_
    rintro e w' ⟨rfl, hw⟩
    rw [hw, HZ.out]
    clear hw w'
    go_wp2
    go_ret
    exact ⟨by rw [HE.out]; rfl, 0, rfl⟩
  · have hz' : (cc 2 == 0) = false := by simpa using hz
    have HZ := hide hz
    clear hz
    go_enter Yba.func5, Yba.ntmps5
    go_wp2_with fail
    refine (count_any (cp 2) (cc 2) w (HCP.out 2 (by omega))).mono ?_
    rintro e w' ⟨rfl, hw⟩
    rw [hw]
    clear hw w'
    go_wp2_with fail
    go_loopg [13] 3 (fun gk i wr => ∃ (k q : Nat), gk + k = 3 ∧ i = .int .i64 k ∧ wr = w.drewN q ∧ Hid (∀ j, j < k → sm j = true))
    case atStart => exact ⟨0, 0, rfl, rfl, rfl, fun j hj => by omega⟩
    case round =>
      obtain ⟨k, q, hk, rfl, rfl, HJ⟩ := hrel
      by_cases hk3 : k < 3
      · have hk3' : (k : Int) < 3 := by omega
        have e0 := HC.out k hk3
        have e1 := HD.out k hk3
        have e2 := HEQ.out k hk3
        cases hs : sm k with
        | false =>
          rw [hs] at e2
          have HE := hide (evens_at (dc := dc) hk3 HZ.out HJ.out hs)
          clear hs
          simp only [Bool.not_false] at e2
          go_wp2_with fail
          go_quiet (fail)
          go_wp2_with fail
          go_quiet ((first | (go_at_call_of 6 (Value.pointer (dp k)); exact (count_any (dp k) (dc k) _ (by exact HDP.out k hk3)).mono (fun e w' h => ⟨h.1, _, h.2⟩)) | (go_at_call_of 6 (Value.pointer (cp k)); exact (count_any (cp k) (cc k) _ (by exact HCP.out k hk3)).mono (fun e w' h => ⟨h.1, _, h.2⟩))))
          go_wp2
          go_ret
          exact ⟨by rw [HE.out]; rfl, _, by rw [World.drewN_drewN, World.drewN_drewN]⟩
        | true =>
          rw [hs] at e2
          have HS := hide hs
          clear hs
          simp only [Bool.not_true] at e2
          go_wp2_with fail
          go_quiet (fail)
          go_wp2_with fail
          go_roundg (3 - (k + 1))
          case measure => omega
          case rel =>
            refine ⟨k + 1, _, by omega, by go_num, rfl, fun j hj => ?_⟩
            by_cases e : j = k
            · rw [e]; exact HS.out
            · exact HJ.out j (by omega)
      · obtain rfl : k = 3 := by omega
        have HE := hide (evens_none (dc := dc) HZ.out HJ.out)
        go_wp2
        go_ret
        exact ⟨by rw [HE.out]; rfl, _, rfl⟩
end Go.Proofs.Ybulkdldg
