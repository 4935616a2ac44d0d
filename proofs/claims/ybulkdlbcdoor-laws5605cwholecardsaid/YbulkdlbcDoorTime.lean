/-
  THE WALKS of the time package's functions on the road, at times without a monotonic reading.
-/
import Derived.Test.YbulkdlbcDoorRows
import Derived.WalkKit
import Derived.Laws.BitsLemmas
import Derived.WalkSpells
import Derived.WalkLawsBesides
import Derived.Deep.LoopGhost
import Derived.BigQuiet
import Derived.Deep.QuietTactic
namespace Go.Proofs.YbulkdlbcDoor
open Go.RowKit

theorem hide {p : Prop} (h : p) : Hid p := h

theorem bv_mask {n : Nat} (h : n < 1073741824) : BitVec.ofNat 64 n &&& BitVec.ofNat 64 1073741823 = BitVec.ofNat 64 n := by
  apply BitVec.eq_of_toNat_eq
  rw [BitVec.toNat_and, BitVec.toNat_ofNat, BitVec.toNat_ofNat, Nat.mod_eq_of_lt (by omega), Nat.mod_eq_of_lt (by decide)]
  exact (Nat.and_two_pow_sub_one_eq_mod n 30).trans (Nat.mod_eq_of_lt (by omega))
theorem and_mono {a : Int} (h0 : 0 ≤ a) (h1 : a < 1073741824) : bits .and .u64 a 9223372036854775808 = 0 := by
  obtain ⟨n, rfl⟩ := Int.eq_ofNat_of_zero_le h0
  have hn : n < 1073741824 := by omega
  have h : BitVec.ofNat 64 n &&& BitVec.ofNat 64 9223372036854775808 = 0#64 := by
    apply BitVec.eq_of_toNat_eq
    rw [BitVec.toNat_and, BitVec.toNat_ofNat, BitVec.toNat_ofNat, Nat.mod_eq_of_lt (by omega), Nat.mod_eq_of_lt (by decide)]
    show n &&& 2 ^ 63 = 0
    apply Nat.eq_of_testBit_eq
    intro i
    rw [Nat.testBit_and, Nat.zero_testBit, Nat.testBit_two_pow]
    by_cases hi : 63 = i
    · subst hi
      rw [Nat.testBit_lt_two_pow (by omega)]
      rfl
    · simp [hi]
  have e : (9223372036854775808 : Int) = ((9223372036854775808 : Nat) : Int) := rfl
  simp only [bits, IntKind.bits, e, BitVec.ofInt_natCast]
  show IntKind.u64.wrap ((BitVec.ofNat 64 n &&& BitVec.ofNat 64 9223372036854775808).toNat : Int) = 0
  rw [h]
  rfl
theorem and_nsec {a : Int} (h0 : 0 ≤ a) (h1 : a < 1073741824) : bits .and .u64 a 1073741823 = a := by
  obtain ⟨n, rfl⟩ := Int.eq_ofNat_of_zero_le h0
  have hn : n < 1073741824 := by omega
  have e : (1073741823 : Int) = ((1073741823 : Nat) : Int) := rfl
  simp only [bits, IntKind.bits, e, BitVec.ofInt_natCast]
  show IntKind.u64.wrap ((BitVec.ofNat 64 n &&& BitVec.ofNat 64 1073741823).toNat : Int) = n
  rw [bv_mask hn, BitVec.toNat_ofNat, Nat.mod_eq_of_lt (by omega), IntKind.wrap_u64]
  omega
theorem andNot_nsec {a : Int} (h0 : 0 ≤ a) (h1 : a < 1073741824) : bits .andNot .u64 a 1073741823 = 0 := by
  obtain ⟨n, rfl⟩ := Int.eq_ofNat_of_zero_le h0
  have hn : n < 1073741824 := by omega
  have e : (1073741823 : Int) = ((1073741823 : Nat) : Int) := rfl
  simp only [bits, IntKind.bits, e, BitVec.ofInt_natCast]
  show IntKind.u64.wrap ((BitVec.ofNat 64 n &&& ~~~ BitVec.ofNat 64 1073741823).toNat : Int) = 0
  rw [← bv_mask hn, BitVec.and_assoc]
  have : BitVec.ofNat 64 1073741823 &&& ~~~ BitVec.ofNat 64 1073741823 = 0#64 := by decide
  rw [this, BitVec.and_zero]
  rfl
theorem or_zero {x : Int} (h0 : 0 ≤ x) (h1 : x < 1073741824) : bits .or .u64 0 x = x := by
  obtain ⟨n, rfl⟩ := Int.eq_ofNat_of_zero_le h0
  have hn : n < 1073741824 := by omega
  have e : (0 : Int) = ((0 : Nat) : Int) := rfl
  simp only [bits, IntKind.bits, e, BitVec.ofInt_natCast]
  show IntKind.u64.wrap ((BitVec.ofNat 64 0 ||| BitVec.ofNat 64 n).toNat : Int) = n
  rw [BitVec.zero_or, BitVec.toNat_ofNat, Nat.mod_eq_of_lt (by omega), IntKind.wrap_u64]
  omega

theorem nsec_call (b : Nat) (a : Int) (w : World) (h0 : 0 ≤ a) (h1 : a < 1000000000) (hc : w.cell? ⟨b, 0, none⟩ = some (.int .u64 a)) :
    Calls Ybad.prog 10 #[.pointer (some ⟨b, 0, none⟩)] w fun e w' => e = .returned (.int .i32 a) ∧ w' = w := by
  have e1 := and_nsec h0 (by omega)
  go_enter Ybad.func10, Ybad.ntmps10
  go_wp2
  go_ret
  exact ⟨rfl, rfl⟩
theorem sec_call (b : Nat) (a e : Int) (w : World) (h0 : 0 ≤ a) (h1 : a < 1000000000) (hc : w.cell? ⟨b, 0, none⟩ = some (.int .u64 a)) (hc1 : w.cell? ⟨b, 1, none⟩ = some (.int .i64 e)) :
    Calls Ybad.prog 14 #[.pointer (some ⟨b, 0, none⟩)] w fun e' w' => e' = .returned (.int .i64 e) ∧ w' = w := by
  have e1 := and_mono h0 (by omega)
  go_enter Ybad.func14, Ybad.ntmps14
  go_wp2
  go_ret
  exact ⟨rfl, rfl⟩

/-- What addSec leaves in 'ext'. -/
def satE (e d : Int) : Int := if decide (e < wrap64 (e + d)) == decide (0 < d) then wrap64 (e + d) else if 0 < d then 9223372036854775807 else -9223372036854775807

theorem addSec_call (b : Nat) (a e d : Int) (w : World) (h0 : 0 ≤ a) (h1 : a < 1000000000) (hc : w.cell? ⟨b, 0, none⟩ = some (.int .u64 a)) (hc1 : w.cell? ⟨b, 1, none⟩ = some (.int .i64 e)) (hf : w.frozen? ⟨b, 1, none⟩ = false) :
    Calls Ybad.prog 11 #[.pointer (some ⟨b, 0, none⟩), .int .i64 d] w fun e' w' => e' = .returned (.tuple #[]) ∧ w' = w.setCell ⟨b, 1, none⟩ (.int .i64 (satE e d)) := by
  have e1 := and_mono h0 (by omega)
  rcases Int.lt_or_le e (wrap64 (e + d)) with hs | hs <;> rcases Int.lt_or_le 0 d with hd | hd
  · have HE : Hid (satE e d = wrap64 (e + d)) := by show _ = _; simp [satE, hs, hd]
    go_enter Ybad.func11, Ybad.ntmps11
    go_wp2
    go_end0
    exact ⟨rfl, by rw [HE.out]⟩
  · have HE : Hid (satE e d = -9223372036854775807) := by show _ = _; simp [satE, hs, Int.not_lt.2 hd]
    go_enter Ybad.func11, Ybad.ntmps11
    go_wp2
    go_end0
    exact ⟨rfl, by rw [HE.out]⟩
  · have HE : Hid (satE e d = 9223372036854775807) := by show _ = _; simp [satE, Int.not_lt.2 hs, hd]
    go_enter Ybad.func11, Ybad.ntmps11
    go_wp2
    go_end0
    exact ⟨rfl, by rw [HE.out]⟩
  · have HE : Hid (satE e d = wrap64 (e + d)) := by show _ = _; simp [satE, Int.not_lt.2 hs, Int.not_lt.2 hd]
    have k1 : decide (e < wrap64 (e + d)) = false := decide_eq_false (Int.not_lt.2 hs)
    have k2 : decide (0 < d) = false := decide_eq_false (Int.not_lt.2 hd)
    clear hs hd
    go_enter Ybad.func11, Ybad.ntmps11
    go_wp2
    go_end0
    exact ⟨rfl, by rw [HE.out]⟩

def addN (a d : Int) : Int := a + d.tmod 1000000000
def addW (a d : Int) : Int := if 1000000000 ≤ addN a d then addN a d - 1000000000 else if addN a d < 0 then addN a d + 1000000000 else addN a d
def addS (a d : Int) : Int := if 1000000000 ≤ addN a d then d.tdiv 1000000000 + 1 else if addN a d < 0 then d.tdiv 1000000000 - 1 else d.tdiv 1000000000
def addE (a e d : Int) : Int := satE e (addS a d)
theorem tmod_bounds (d : Int) : -1000000000 < d.tmod 1000000000 ∧ d.tmod 1000000000 < 1000000000 := by
  have h : (d.tmod 1000000000).natAbs < 1000000000 := by
    rw [Int.natAbs_tmod]
    exact Nat.mod_lt _ (by decide)
  omega
theorem addW_bounds {a d : Int} (h0 : 0 ≤ a) (h1 : a < 1000000000) : 0 ≤ addW a d ∧ addW a d < 1000000000 := by
  have := tmod_bounds d
  unfold addW addN
  split
  · omega
  · split <;> omega
theorem satE_bounds (e d : Int) : -9223372036854775808 ≤ satE e d ∧ satE e d ≤ 9223372036854775807 := by
  unfold satE wrap64
  split
  · omega
  · split <;> omega

/-- A time without a monotonic reading, in no location. -/
def T (a e : Int) : Value := .agg #[.int .u64 a, .int .i64 e, .pointer none]

theorem info26 : (Ybad.prog.info? 26).map (·.size) = some 3 := by kernel_rfl
theorem add_any (a e d : Int) (w : World) (h0 : 0 ≤ a) (h1 : a < 1000000000) (hd0 : -9223372036854775808 ≤ d) (hd1 : d ≤ 9223372036854775807) :
    Calls Ybad.prog 4 #[.agg #[.int .u64 a, .int .i64 e, .pointer none], .int .i64 d] w fun e' w' => e' = .returned (.agg #[.int .u64 (addW a d), .int .i64 (addE a e d), .pointer none]) ∧ Below w.heap.size w w' := by
  obtain ⟨m0, m1⟩ := tmod_bounds d
  have q : -9223372037 ≤ d.tdiv 1000000000 ∧ d.tdiv 1000000000 ≤ 9223372037 := by
    have := Int.tmod_add_mul_tdiv d 1000000000
    omega
  obtain ⟨q0, q1⟩ := q
  have a1 := andNot_nsec h0 (by omega)
  rcases Int.lt_or_le (a + d.tmod 1000000000) 1000000000 with hn | hn
  · rcases Int.lt_or_le (a + d.tmod 1000000000) 0 with hn2 | hn2
    · have HW : Hid (addW a d = a + d.tmod 1000000000 + 1000000000) := by show _ = _; unfold addW addN; rw [if_neg (Int.not_le.2 hn), if_pos hn2]
      have HS : Hid (addE a e d = satE e (d.tdiv 1000000000 - 1)) := by show _ = _; unfold addE addS addN; rw [if_neg (Int.not_le.2 hn), if_pos hn2]
      have o1 := or_zero (x := a + d.tmod 1000000000 + 1000000000) (by omega) (by omega)
      have o2 := and_mono (a := a + d.tmod 1000000000 + 1000000000) (by omega) (by omega)
      go_enter Ybad.func4, Ybad.ntmps4
      go_wp2_with fail
      refine (nsec_call w.heap.size a _ h0 h1 (by simp)).mono ?_
      rintro e' w' ⟨rfl, hw⟩
      rw [hw]
      clear hw
      go_wp2_with fail
      refine (addSec_call w.heap.size (a + d.tmod 1000000000 + 1000000000) e _ _ (by omega) (by omega) (by simp) (by simp) (by simp)).mono ?_
      rintro e' w' ⟨rfl, hw⟩
      rw [hw]
      clear hw
      go_wp2
      (try simp only [Exit.inBlock, Exit.then])
      refine bodyPost_ret (results_cell_row rfl _ _ (w.heap.size + 1) 26 _ (0, 0) _ rfl (heap_alloc2_new _ _ _) Ybad.underlying26 rfl info26) rfl ?_
      refine ⟨by rw [HW.out, HS.out], ?_⟩
      iterate 2 refine Below.alloc ?_ (by simp; try omega) _
      exact Below.refl _ _
    · have HW : Hid (addW a d = a + d.tmod 1000000000) := by show _ = _; unfold addW addN; rw [if_neg (Int.not_le.2 hn), if_neg (Int.not_lt.2 hn2)]
      have HS : Hid (addE a e d = satE e (d.tdiv 1000000000)) := by show _ = _; unfold addE addS addN; rw [if_neg (Int.not_le.2 hn), if_neg (Int.not_lt.2 hn2)]
      have o1 := or_zero (x := a + d.tmod 1000000000) (by omega) (by omega)
      have o2 := and_mono (a := a + d.tmod 1000000000) (by omega) (by omega)
      go_enter Ybad.func4, Ybad.ntmps4
      go_wp2_with fail
      refine (nsec_call w.heap.size a _ h0 h1 (by simp)).mono ?_
      rintro e' w' ⟨rfl, hw⟩
      rw [hw]
      clear hw
      go_wp2_with fail
      refine (addSec_call w.heap.size (a + d.tmod 1000000000) e _ _ (by omega) (by omega) (by simp) (by simp) (by simp)).mono ?_
      rintro e' w' ⟨rfl, hw⟩
      rw [hw]
      clear hw
      go_wp2
      (try simp only [Exit.inBlock, Exit.then])
      refine bodyPost_ret (results_cell_row rfl _ _ (w.heap.size + 1) 26 _ (0, 0) _ rfl (heap_alloc2_new _ _ _) Ybad.underlying26 rfl info26) rfl ?_
      refine ⟨by rw [HW.out, HS.out], ?_⟩
      iterate 2 refine Below.alloc ?_ (by simp; try omega) _
      exact Below.refl _ _
  · have HW : Hid (addW a d = a + d.tmod 1000000000 - 1000000000) := by show _ = _; unfold addW addN; rw [if_pos hn]
    have HS : Hid (addE a e d = satE e (d.tdiv 1000000000 + 1)) := by show _ = _; unfold addE addS addN; rw [if_pos hn]
    have o1 := or_zero (x := a + d.tmod 1000000000 - 1000000000) (by omega) (by omega)
    have o2 := and_mono (a := a + d.tmod 1000000000 - 1000000000) (by omega) (by omega)
    go_enter Ybad.func4, Ybad.ntmps4
    go_wp2_with fail
    refine (nsec_call w.heap.size a _ h0 h1 (by simp)).mono ?_
    rintro e' w' ⟨rfl, hw⟩
    rw [hw]
    clear hw
    go_wp2_with fail
    refine (addSec_call w.heap.size (a + d.tmod 1000000000 - 1000000000) e _ _ (by omega) (by omega) (by simp) (by simp) (by simp)).mono ?_
    rintro e' w' ⟨rfl, hw⟩
    rw [hw]
    clear hw
    go_wp2
    (try simp only [Exit.inBlock, Exit.then])
    refine bodyPost_ret (results_cell_row rfl _ _ (w.heap.size + 1) 26 _ (0, 0) _ rfl (heap_alloc2_new _ _ _) Ybad.underlying26 rfl info26) rfl ?_
    refine ⟨by rw [HW.out, HS.out], ?_⟩
    iterate 2 refine Below.alloc ?_ (by simp; try omega) _
    exact Below.refl _ _


theorem and_both {a b : Int} (h1 : 0 ≤ a) (h1' : a < 1000000000) (h2 : 0 ≤ b) (h2' : b < 1000000000) : bits .and .u64 (bits .and .u64 a b) 9223372036854775808 = 0 := by
  obtain ⟨n, rfl⟩ := Int.eq_ofNat_of_zero_le h1
  obtain ⟨m, rfl⟩ := Int.eq_ofNat_of_zero_le h2
  have h := (bits_nat .u64 63 (by decide) (fun n h0 h1 => by rw [IntKind.wrap_u64]; omega) n m (by omega) (by omega)).1
  rw [h]
  have := Nat.and_le_left (n := n) (m := m)
  exact and_mono (by omega) (by omega)

theorem equal_any (a1 e1 a2 e2 : Int) (w : World) (h1 : 0 ≤ a1) (h1' : a1 < 1000000000) (h2 : 0 ≤ a2) (h2' : a2 < 1000000000) :
    Calls Ybad.prog 15 #[.agg #[.int .u64 a1, .int .i64 e1, .pointer none], .agg #[.int .u64 a2, .int .i64 e2, .pointer none]] w fun e' w' => e' = .returned (.bool (decide (e1 = e2) && decide (a1 = a2))) ∧ Below w.heap.size w w' := by
  have b1 := and_both h1 h1' h2 h2'
  by_cases hd : e1 = e2
  · subst hd
    go_enter Ybad.func15, Ybad.ntmps15
    go_wp2_with fail
    refine (sec_call w.heap.size a1 e1 _ h1 h1' (by simp) (by simp)).mono ?_
    rintro e' w' ⟨rfl, hw⟩
    rw [hw]
    clear hw
    go_wp2_with fail
    refine (sec_call (w.heap.size + 1) a2 e1 _ h2 h2' (by simp) (by simp)).mono ?_
    rintro e' w' ⟨rfl, hw⟩
    rw [hw]
    clear hw
    go_wp2_with fail
    refine (nsec_call w.heap.size a1 _ h1 h1' (by simp)).mono ?_
    rintro e' w' ⟨rfl, hw⟩
    rw [hw]
    clear hw
    go_wp2_with fail
    refine (nsec_call (w.heap.size + 1) a2 _ h2 h2' (by simp)).mono ?_
    rintro e' w' ⟨rfl, hw⟩
    rw [hw]
    clear hw
    go_wp2
    go_ret
    refine ⟨by simp only [decide_true, Bool.true_and]; rfl, ?_⟩
    iterate 2 refine Below.alloc ?_ (by simp; try omega) _
    exact Below.refl _ _
  · have hd' : (e1 == e2) = false := by simpa using hd
    go_enter Ybad.func15, Ybad.ntmps15
    go_wp2_with fail
    refine (sec_call w.heap.size a1 e1 _ h1 h1' (by simp) (by simp)).mono ?_
    rintro e' w' ⟨rfl, hw⟩
    rw [hw]
    clear hw
    go_wp2_with fail
    refine (sec_call (w.heap.size + 1) a2 e2 _ h2 h2' (by simp) (by simp)).mono ?_
    rintro e' w' ⟨rfl, hw⟩
    rw [hw]
    clear hw
    go_wp2
    go_ret
    refine ⟨by simp [hd], ?_⟩
    iterate 2 refine Below.alloc ?_ (by simp; try omega) _
    exact Below.refl _ _

theorem before_any (a1 e1 a2 e2 : Int) (w : World) (h1 : 0 ≤ a1) (h1' : a1 < 1000000000) (h2 : 0 ≤ a2) (h2' : a2 < 1000000000) :
    Calls Ybad.prog 16 #[.agg #[.int .u64 a1, .int .i64 e1, .pointer none], .agg #[.int .u64 a2, .int .i64 e2, .pointer none]] w fun e' w' => e' = .returned (.bool (decide (e1 < e2) || (decide (e1 = e2) && decide (a1 < a2)))) ∧ Below w.heap.size w w' := by
  have b1 := and_both h1 h1' h2 h2'
  rcases Int.lt_trichotomy e1 e2 with hd | hd | hd
  · go_enter Ybad.func16, Ybad.ntmps16
    go_wp2_with fail
    refine (sec_call w.heap.size a1 e1 _ h1 h1' (by simp) (by simp)).mono ?_
    rintro e' w' ⟨rfl, hw⟩
    rw [hw]
    clear hw
    go_wp2_with fail
    refine (sec_call (w.heap.size + 1) a2 e2 _ h2 h2' (by simp) (by simp)).mono ?_
    rintro e' w' ⟨rfl, hw⟩
    rw [hw]
    clear hw
    go_wp2
    go_ret
    refine ⟨by simp [hd], ?_⟩
    iterate 2 refine Below.alloc ?_ (by simp; try omega) _
    exact Below.refl _ _
  · subst hd
    go_enter Ybad.func16, Ybad.ntmps16
    go_wp2_with fail
    refine (sec_call w.heap.size a1 e1 _ h1 h1' (by simp) (by simp)).mono ?_
    rintro e' w' ⟨rfl, hw⟩
    rw [hw]
    clear hw
    go_wp2_with fail
    refine (sec_call (w.heap.size + 1) a2 e1 _ h2 h2' (by simp) (by simp)).mono ?_
    rintro e' w' ⟨rfl, hw⟩
    rw [hw]
    clear hw
    go_wp2_with fail
    refine (nsec_call w.heap.size a1 _ h1 h1' (by simp)).mono ?_
    rintro e' w' ⟨rfl, hw⟩
    rw [hw]
    clear hw
    go_wp2_with fail
    refine (nsec_call (w.heap.size + 1) a2 _ h2 h2' (by simp)).mono ?_
    rintro e' w' ⟨rfl, hw⟩
    rw [hw]
    clear hw
    go_wp2
    go_ret
    refine ⟨by simp, ?_⟩
    iterate 2 refine Below.alloc ?_ (by simp; try omega) _
    exact Below.refl _ _
  · have hd1 : decide (e1 < e2) = false := decide_eq_false (by omega)
    have hd2 : (e1 == e2) = false := by simp; omega
    go_enter Ybad.func16, Ybad.ntmps16
    go_wp2_with fail
    refine (sec_call w.heap.size a1 e1 _ h1 h1' (by simp) (by simp)).mono ?_
    rintro e' w' ⟨rfl, hw⟩
    rw [hw]
    clear hw
    go_wp2_with fail
    refine (sec_call (w.heap.size + 1) a2 e2 _ h2 h2' (by simp) (by simp)).mono ?_
    rintro e' w' ⟨rfl, hw⟩
    rw [hw]
    clear hw
    go_wp2
    go_ret
    refine ⟨by rw [hd1, decide_eq_false (by omega)]; rfl, ?_⟩
    iterate 2 refine Below.alloc ?_ (by simp; try omega) _
    exact Below.refl _ _
end Go.Proofs.YbulkdlbcDoor
