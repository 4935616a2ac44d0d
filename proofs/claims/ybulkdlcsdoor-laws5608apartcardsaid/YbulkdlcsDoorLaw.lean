/-
  THE WALK of the law 'LawS5608APart' (function 3).
-/
import Derived.Test.YbulkdlcsDoorWalk
import Derived.Deep.CutRange
namespace Go.Proofs.YbulkdlcsDoor
open Go.RowKit

theorem hide {p : Prop} (h : p) : Hid p := h
theorem word_size (k : Nat) : (word k).size ≤ 24 := by
  unfold word
  split <;> decide

set_option maxRecDepth 100000 in
set_option maxHeartbeats 400000 in
theorem law_walk (look : ByteArray → Option ByteArray) (bm p : Nat) (s : ByteArray) (use : Bool) (calls : Int) (w : World) (hp : p ≤ 255) (hs : s.size ≤ maxLen)
    (hc : w.cell? ⟨0, 0, none⟩ = some (.map (some bm))) (hb : bm < w.heap.size)
    (hl : ∀ s : ByteArray, s.size ≤ maxLen → ∀ W' : World, W'.heap[bm]? = w.heap[bm]? → (Instr.lookup 30 (.map (some bm)) (.string s) true).run Ybad.prog W' = .ok (.tuple #[.string ((look s).getD ⟨#[]⟩), .bool (look s).isSome]) W')
    (hlw : ∀ k, k < 10 → look (word k) = some (reason k)) :
    Calls Ybad.prog 3 #[.string s, .int .u8 (p : Int), .bool use, .int .i64 calls] w fun e w' => e = .returned (.bool true) ∧ Below w.heap.size w w' := by
  have HL := hide hl
  have HLW := hide hlw
  have HS := hide hs
  clear hl hlw hs
  go_enter Ybad.func3, Ybad.ntmps3
  go_wp2_with fail
  refine (table_any w).mono ?_
  rintro e w1 ⟨rfl, hb1, hw1, hr1⟩
  have HB1 := hide hb1
  have HW1 := hide hw1
  have HR1 := hide hr1
  have hc1 : w1.cell? ⟨0, 0, none⟩ = some (.map (some bm)) := cell_later hb1 hc
  clear hb1 hw1 hr1
  go_upto_if 19 with (fail)
  go_cut [11] from 14 (fun s1 wc => ∃ s2 : ByteArray, s1 = .string s2 ∧ s2.size ≤ maxLen ∧ wc = w1)
  case first =>
    cases use with
    | false =>
      go_wp2
      go_meet
      case rel => exact ⟨s, rfl, HS.out, rfl⟩
    | true =>
      have hcw := HW1.out (p % 10) (by omega)
      go_wp2
      go_meet
      case rel => exact ⟨word (p % 10), rfl, by have := word_size (p % 10); unfold maxLen; omega, rfl⟩
  case rest =>
    obtain ⟨s2, rfl, hs2, hwc⟩ := hcut
    rw [hwc]; clear hwc wc
    by_cases hcl : 0 < calls
    · go_wp2_with fail
      refine (reply_calls s2 calls w1 hcl).mono ?_
      rintro e w2 ⟨rfl, hw2⟩
      rw [hw2]; clear hw2 w2
      go_wp2
      go_ret
      exact ⟨rfl, HB1.out⟩
    · go_wp2_with fail
      refine (reply_map look bm s2 calls w1 hc1 (by omega) (HL.out s2 hs2 w1 (HB1.out.block bm hb))).mono ?_
      rintro e w2 ⟨rfl, hw2⟩
      rw [hw2]; clear hw2 w2
      go_wp2_with fail
      go_loopg [13] 10 (fun gk i wr => ∃ k : Nat, gk + k = 10 ∧ i = .int .i64 k ∧ wr = w1)
      case atStart => exact ⟨0, rfl, rfl, rfl⟩
      case round =>
        obtain ⟨k, hk, rfl, hwr⟩ := hrel
        rw [hwr]; clear hwr wr
        by_cases hkn : k < 10
        · have c0 := HW1.out k hkn
          have c1 := HR1.out k hkn
          have hkn' : (k : Int) < 10 := by omega
          by_cases hw : word k = s2
          · have hg : got look s2 = reason k := by unfold got; rw [← hw, HLW.out k hkn]; rfl
            rw [hg]
            subst hw
            go_wp2
            go_ret
            exact ⟨rfl, HB1.out⟩
          · have hne : ((word k).toList == s2.toList) = false := by
              rw [ByteArray.toList_eq, ByteArray.toList_eq]
              simpa using fun h => hw (WideShapes.bytes_inj h)
            clear hw
            go_wp2
            go_roundg (gk - 1)
            case measure => omega
            case rel => exact ⟨k + 1, by omega, by go_num, rfl⟩
        · go_wp2
          go_ret
          exact ⟨rfl, HB1.out⟩
end Go.Proofs.YbulkdlcsDoor
