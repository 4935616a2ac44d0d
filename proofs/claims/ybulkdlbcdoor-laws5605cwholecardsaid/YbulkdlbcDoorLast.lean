/-
  THE WALKS of (*Node).expired, (netip.Addr).IsValid and zzs5605clast.
-/
import Derived.Test.YbulkdlbcDoorSub
namespace Go.Proofs.YbulkdlbcDoor
open Go.RowKit

set_option maxRecDepth 100000 in
set_option maxHeartbeats 400000 in
theorem expired_any (nb : Nat) (p a1 e1 a2 e2 : Int) (w : World) (h1 : 0 ≤ a1) (h1' : a1 < 1000000000) (h2 : 0 ≤ a2) (h2' : a2 < 1000000000) (hn : w.cell? ⟨nb, 26, none⟩ = some (.int .i64 p)) :
    Calls Ybad.prog 18 #[.pointer (some ⟨nb, 0, none⟩), .agg #[.int .u64 a2, .int .i64 e2, .pointer none], .agg #[.int .u64 a1, .int .i64 e1, .pointer none]] w fun e' w' => e' = .returned (.bool (decide (wrap64 (3 * p) < subF a1 e1 a2 e2))) ∧ Below w.heap.size w w' := by
  go_enter Ybad.func18, Ybad.ntmps18
  go_wp2_with fail
  generalize hW : ((w.alloc (.cells #[.int .u64 a2, .int .i64 e2, .pointer none] 26)).alloc (.cells #[.int .u64 a1, .int .i64 e1, .pointer none] 26)) = W
  have BW : Hid (Below w.heap.size w W) := by
    show Below _ _ _
    rw [← hW]
    iterate 2 refine Below.alloc ?_ (by simp; try omega) _
    exact Below.refl _ _
  have c0 : W.cell? ⟨w.heap.size, 0, none⟩ = some (.int .u64 a2) := by rw [← hW]; simp
  have c1 : W.cell? ⟨w.heap.size, 1, none⟩ = some (.int .i64 e2) := by rw [← hW]; simp
  have c2 : W.cell? ⟨w.heap.size, 2, none⟩ = some (.pointer none) := by rw [← hW]; simp
  have d0 : W.cell? ⟨w.heap.size + 1, 0, none⟩ = some (.int .u64 a1) := by rw [← hW]; simp
  have d1 : W.cell? ⟨w.heap.size + 1, 1, none⟩ = some (.int .i64 e1) := by rw [← hW]; simp
  have d2 : W.cell? ⟨w.heap.size + 1, 2, none⟩ = some (.pointer none) := by rw [← hW]; simp
  have hn' := (BW.out.cell (World.block_lt_of_cell? w _ hn)).trans hn
  clear hW
  have x0 := fun x : Aft W => x.cell c0
  have x1 := fun x : Aft W => x.cell c1
  have x2 := fun x : Aft W => x.cell c2
  have y0 := fun x : Aft W => x.cell d0
  have y1 := fun x : Aft W => x.cell d1
  have y2 := fun x : Aft W => x.cell d2
  have z := fun x : Aft W => x.cell hn'
  refine wp_region_aft (by kernel_rfl) (by kernel_rfl) ?_
  repeat (go_big_quiet_step ((go_at_call 6; exact aft_of (sub_any a1 e1 a2 e2 _ h1 h1' h2 h2'))))
  refine wpQuiet_nil ?_
  rintro w' ⟨x, rfl⟩
  have BX := hide (BW.out.trans (x.h.mono BW.out.size))
  go_wp2
  go_ret
  exact ⟨rfl, BX.out⟩

/-- The holders that came in. -/
def Hs (w : World) (a0 : Option Addr) (n : Nat) (A : Nat → ByteArray) (L : Nat → Int) : Prop :=
  ∀ i, i < n → ∃ b o, a0 = some ⟨b, o, none⟩ ∧ b < w.heap.size ∧ w.cell? ⟨b, o + i * 2, none⟩ = some (.string (A i)) ∧ w.cell? ⟨b, o + i * 2 + 1, none⟩ = some (.int .i64 (L i))
theorem Hs.below {w w' : World} {a0 : Option Addr} {n B : Nat} {A : Nat → ByteArray} {L : Nat → Int} (h : Hs w a0 n A L) (hB : Below B w w') (hb : ∀ b o, a0 = some ⟨b, o, none⟩ → b < B) : Hs w' a0 n A L := fun i hi => by
  obtain ⟨b, o, h0, hl, h1, h2⟩ := h i hi
  exact ⟨b, o, h0, Nat.lt_of_lt_of_le hl hB.size, (hB.cell (p := ⟨b, o + i * 2, none⟩) (hb b o h0)).trans h1, (hB.cell (p := ⟨b, o + i * 2 + 1, none⟩) (hb b o h0)).trans h2⟩

theorem bytes_ext {x y : ByteArray} (h : x.data.toList = y.data.toList) : x = y := by
  obtain ⟨⟨x⟩⟩ := x
  obtain ⟨⟨y⟩⟩ := y
  simp at h
  rw [h]
theorem bytes_ne {x y : ByteArray} (h : x ≠ y) : (x.toList == y.toList) = false := by
  rw [ByteArray.toList_eq, ByteArray.toList_eq, beq_eq_false_iff_ne]
  exact fun e => h (bytes_ext e)

/-- No later one has the same address. -/
def lastB (A : Nat → ByteArray) (n i : Nat) : Bool := decide (∀ j, j < n → i < j → A j ≠ A i)

set_option maxRecDepth 100000 in
set_option maxHeartbeats 400000 in
theorem last_any (a0 : Option Addr) (n c : Nat) (A : Nat → ByteArray) (L : Nat → Int) (i : Nat) (w : World) (hi : i < n) (hn : n ≤ 4096) (hs : Hs w a0 n A L) :
    Calls Ybad.prog 5 #[.slice a0 n c, .int .i64 i] w fun e w' => e = .returned (.bool (lastB A n i)) ∧ ∃ q, w' = w.drewN q := by
  have HS := hide hs
  clear hs
  go_enter Ybad.func5, Ybad.ntmps5
  go_wp2_with fail
  go_loopg [5] (n - (i + 1)) (fun gk j wr => ∃ (k q : Nat), gk + k = n ∧ i < k ∧ j = .int .i64 k ∧ wr = w.drewN q ∧ Hid (∀ j, j < k → i < j → A j ≠ A i))
  case atStart => exact ⟨i + 1, 0, by omega, by omega, by go_num, rfl, fun j h1 h2 => by omega⟩
  case round =>
    obtain ⟨k, q, hk, hik, rfl, rfl, HJ⟩ := hrel
    by_cases hkn : k < n
    · obtain ⟨b, o, h0, hl, c0, _⟩ := HS.out k hkn
      obtain ⟨b', o', h0', _, c1, _⟩ := HS.out i hi
      rw [h0] at h0'
      injection h0' with h0'
      injection h0' with hb ho _
      subst hb ho h0
      have hkn' : (k : Int) < (n : Int) := by omega
      have hin' : (i : Int) < (n : Int) := by omega
      by_cases he : A k = A i
      · have HB : Hid (lastB A n i = false) := by
          show _ = _
          exact decide_eq_false (fun h => h k hkn hik he)
        rw [he] at c0
        clear he
        go_wp2_with fail
        go_quiet (fail)
        go_wp2
        go_ret
        exact ⟨by rw [HB.out]; rfl, _, by rw [World.drewN_drewN]⟩
      · have hne : ((A k).toList == (A i).toList) = false := bytes_ne he
        have HN := hide he
        clear he
        go_wp2_with fail
        go_quiet (fail)
        go_wp2_with fail
        go_roundg (n - (k + 1))
        case measure => omega
        case rel =>
          refine ⟨k + 1, _, by omega, by omega, by go_num, rfl, fun j h1 h2 => ?_⟩
          by_cases e : j = k
          · rw [e]; exact HN.out
          · exact HJ.out j (by omega) h2
    · obtain rfl : k = n := by omega
      have HB : Hid (lastB A k i = true) := by
        show _ = _
        exact decide_eq_true HJ.out
      go_wp2
      go_ret
      exact ⟨by rw [HB.out]; rfl, _, rfl⟩
end Go.Proofs.YbulkdlbcDoor
