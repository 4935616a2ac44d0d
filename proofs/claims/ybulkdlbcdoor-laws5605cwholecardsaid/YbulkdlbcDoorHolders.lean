/-
  THE WALK of (*Node).holders (function 17): the keys that have not expired, collected in whatever order, and sorted.
-/
import Derived.Test.YbulkdlbcDoorMap
import Derived.Test.YbulkdlbcDoorShelf
import Derived.Sort.OwnSorted
import Derived.Sort.KeysCollected
import Derived.OwnWalk
namespace Go.Proofs.YbulkdlbcDoor
open Go.RowKit Go.Maps Go.Sort

def stampOf (d : Int) : Value := .agg #[.int .u64 (addW 0 d), .int .i64 (addE 0 0 d), .pointer none, .int .u64 0, .int .u64 0, .pointer none]
def ageOf (na ne d : Int) : Int := subF na ne (addW 0 d) (addE 0 0 d)
def oldB (p na ne d : Int) : Bool := decide (wrap64 (3 * p) < ageOf na ne d)

theorem law9 : Keyed Ybad.prog 9 := string_keyed Ybad.underlying9
theorem info9 : (Ybad.prog.info? 9).map (fun i => (i.zero, i.size, i.bytes)) = some (some (.string ⟨#[]⟩), 1, 16) := by kernel_rfl

theorem Below.asGrown {w w' : World} (h : Below w.heap.size w w') (row : Option Nat) : w.grownBy w' row := ⟨h.os, h.tape, h.output, h.size, fun k hk _ => h.block k hk⟩

/-- What came out of the map. -/
theorem came {D : DataW Value} {g : List UInt8 → Option Int} {x : List UInt8} {c : Value} (h3 : ∀ s, (∀ z, D.atKey (.string s) (.held z) = .held (((g s).map stampOf).getD z)) ∧ Maps.has D (.string s) = ((g s).map stampOf).isSome)
    (hat : ∀ zd, D.atKey (.string x) zd = .held c) : ∃ d, g x = some d ∧ c = stampOf d := by
  cases hg : g x with
  | none =>
    have h1 := (h3 x).1 (.int .i64 0)
    have h2 := (h3 x).1 (.int .i64 1)
    rw [hat, hg] at h1 h2
    simp at h1 h2
    rw [h1] at h2
    simp at h2
  | some d =>
    have h1 := (h3 x).1 (.int .i64 0)
    rw [hat, hg] at h1
    simp at h1
    exact ⟨d, rfl, h1⟩

set_option maxRecDepth 100000 in
set_option maxHeartbeats 1000000 in
theorem holders_any (nb rb mb n sz : Nat) (p na ne : Int) (g : List UInt8 → Option Int) (w : World) (h1 : 0 ≤ na) (h1' : na < 1000000000) (hN : w.cell? ⟨nb, 26, none⟩ = some (.int .i64 p)) (hR : w.cell? ⟨rb, 21, none⟩ = some (.map (some mb)))
    (hM : SM Ybad.prog 9 w mb n sz (fun s => (g s).map stampOf)) (hn : n ≤ 4096) :
    Calls Ybad.prog 17 #[.pointer (some ⟨nb, 0, none⟩), .pointer (some ⟨rb, 0, none⟩), .agg #[.int .u64 na, .int .i64 ne, .pointer none]] w fun e w' => ∃ (v : Value) (ts : List (List UInt8)), e = .returned v ∧ w'.ownsRow w.heap.size 9 1 v ts.length (ts.map encStr) ∧ ts.Nodup ∧
      ts.Pairwise (fun x y => x ≤ y) ∧ (∀ s, s ∈ ts ↔ ∃ d, g s = some d ∧ oldB p na ne d = false) ∧ ts.length ≤ 4096 ∧ Below w.heap.size w w' := by
  obtain ⟨i0, hi, hz0, hz1, hz2⟩ := info_parts info9
  have hle := hM.size_le
  obtain ⟨D, hown, hsz, h3⟩ := hM
  have H3 := hide h3
  clear h3
  have hbl := hown.lt
  have hnl := World.block_lt_of_cell? w ⟨nb, 26, none⟩ hN
  have hrl := World.block_lt_of_cell? w ⟨rb, 21, none⟩ hR
  dsimp only at hnl hrl
  have e1 : (w.alloc (.cells #[.int .u64 na, .int .i64 ne, .pointer none] 26)).heap.size = w.heap.size + 1 := by simp
  go_enter Ybad.func17, Ybad.ntmps17
  go_wp2_with (first
    | (at_range; refine wpList_range_own _ rfl _ 30 rfl 9 46 law9 Ybad.underlying30 _ mb n _ rfl (hown.alloc _) ?_; intro w0 hrg0 hg0 hs0))
  rw [e1] at hrg0 hs0
  have hb0 : Below w.heap.size w w0 := ((Below.refl _ _).alloc (Nat.le_refl _) _).grown hg0 (by simp) (fun j hj => by cases hj)
  have t0 : w0.cell? ⟨w.heap.size, 0, none⟩ = some (.int .u64 na) := hg0.cell (a := ⟨w.heap.size, 0, none⟩) (by simp) (by simp)
  have t1 : w0.cell? ⟨w.heap.size, 1, none⟩ = some (.int .i64 ne) := hg0.cell (a := ⟨w.heap.size, 1, none⟩) (by simp) (by simp)
  have t2 : w0.cell? ⟨w.heap.size, 2, none⟩ = some (.pointer none) := hg0.cell (a := ⟨w.heap.size, 2, none⟩) (by simp) (by simp)
  go_loopw [7] (fun v wr => ∃ (left : Lit → Bool) (cnt : Nat) (ss : List (List UInt8)), wr.ranges Ybad.prog 9 self mb (w.heap.size + 1) n D left cnt ∧ ss.length + cnt ≤ 4096 ∧ wr.ownsRow (w.heap.size + 1) 9 1 v ss.length (ss.map encStr) ∧
      Hid (ss.Nodup ∧ ∀ x, x ∈ ss ↔ (left (.string x) = false ∧ ∃ d, g x = some d ∧ oldB p na ne d = false)) ∧ Below w.heap.size w wr ∧
      wr.cell? ⟨w.heap.size, 0, none⟩ = some (.int .u64 na) ∧ wr.cell? ⟨w.heap.size, 1, none⟩ = some (.int .i64 ne) ∧ wr.cell? ⟨w.heap.size, 2, none⟩ = some (.pointer none))
    (fun _ wr => wr.rangeLeft mb (w.heap.size + 1))
  case atStart =>
    refine ⟨_, _, [], hrg0, by simp; omega, World.ownsRow_nil _ _ _ _, ⟨List.nodup_nil, fun x => ?_⟩, hb0, t0, t1, t2⟩
    have := (H3.out x).2
    rw [this]
    cases g x <;> simp
  case round =>
    obtain ⟨left, cnt, ss, hrg, hcs, hrow, hC, hnx, t0, t1, t2⟩ := hrel
    go_wp2_with (first
      | (at_next; refine wpList_next_ranges _ rfl _ rfl 9 law9 self encStr (fun v : Value => v) (fun key kl hk => by obtain ⟨x, hx, _⟩ := Maps.keyOf_str Ybad.underlying9 hk; exact ⟨x, hx⟩) (fun v y hv => ⟨v, rfl⟩) mb (w.heap.size + 1) n _ _ _ rfl hrg ?_ ?_))
    · intro hc0 hl0
      have tr : ∀ a b c : List UInt8, leB a b = true → leB b c = true → leB a c = true := fun a b c h1 h2 => by simp only [leB, decide_eq_true_eq] at *; exact List.le_trans h1 h2
      have to : ∀ a b : List UInt8, (leB a b || leB b a) = true := fun a b => by simp only [leB, Bool.or_eq_true, decide_eq_true_eq]; exact List.le_total a b
      have hmp := List.mergeSort_perm ss leB
      have FIN : Hid ((ss.mergeSort leB).Nodup ∧ (ss.mergeSort leB).Pairwise (fun x y => x ≤ y) ∧ ∀ s, s ∈ ss.mergeSort leB ↔ ∃ d, g s = some d ∧ oldB p na ne d = false) := by
        refine ⟨hmp.nodup_iff.2 hC.out.1, (List.pairwise_mergeSort tr to ss).imp (fun h => by simpa [leB] using h), fun s => ?_⟩
        rw [hmp.mem_iff, hC.out.2 s, hl0]
        simp
      have hlen : (ss.mergeSort leB).length = ss.length := hmp.length_eq
      clear tr to hmp hC
      rcases hrow.2 with ⟨rfl, hz⟩ | ⟨gb, cap, cur, rfl, hbase, hb, k1, k2, k3, k4⟩
      · have hc := Ybad.slices_Sort_string_none none 0 wr
        obtain rfl : ss = [] := List.eq_nil_of_length_eq_zero hz
        go_wp2_with (go_at_call 19; refine hc.mono ?_; rintro e w' ⟨rfl, rfl⟩)
        go_ret
        exact ⟨_, ([] : List (List UInt8)).mergeSort leB, rfl, by simpa using World.ownsRow_nil _ w.heap.size 9 1, FIN.out.1, FIN.out.2.1, FIN.out.2.2, by simp, hnx⟩
      · have hH : Holds encStr wr gb 0 ss.toArray := holds_of_block hb (by simpa using k4)
        have hgl : gb < wr.heap.size := (Array.getElem?_eq_some_iff.1 hb).1
        have hc := Ybad.slices_Sort_string gb 0 cap ss wr hH hgl (by omega)
        go_wp2_with (go_at_call 19; refine hc.mono ?_; rintro e w' ⟨rfl, nn, os, rfl⟩)
        go_ret
        refine ⟨_, ss.mergeSort leB, rfl, ?_, FIN.out.1, FIN.out.2.1, FIN.out.2.2, by omega, hnx.grown (grownBy_sorted _) hnx.size (fun j hj => by cases hj; omega)⟩
        rw [hlen]
        exact ownsRow_sorted (by simp) (by omega) hb k1 k2 k3
    · intro x c kl yd yp w2 cnt2 hkey hlk hv hat hrg2 hlt hg2 hs2 hen
      obtain ⟨x', ex, rfl, _⟩ := Maps.keyOf_str Ybad.underlying9 hkey
      obtain rfl : x = x' := encStr_inj ex
      simp only [self, Option.some.injEq, Prod.mk.injEq] at hv
      obtain ⟨rfl, rfl⟩ := hv
      obtain ⟨d, hgd, rfl⟩ := came H3.out hat
      have HGD := hide hgd
      have hrow2 := hrow.kept hg2 (Or.inr (row_ne_iter hrow hrg).symm)
      have hb2 : Below w.heap.size w w2 := hnx.grown hg2 hnx.size (fun j hj => by cases hj; exact Nat.le_succ _)
      have u0 := hg2.cell t0 (by simp)
      have u1 := hg2.cell t1 (by simp)
      have u2 := hg2.cell t2 (by simp)
      have hsz2 := hb2.size
      have hn2 := (hb2.cell (p := ⟨nb, 26, none⟩) hnl).trans hN
      have hl2 : w.heap.size < w2.heap.size := World.block_lt_of_cell? w2 ⟨w.heap.size, 0, none⟩ u0
      have hnb2 : nb < w2.heap.size := by omega
      obtain ⟨aw0, aw1⟩ := addW_bounds (a := 0) (d := d) (by omega) (by omega)
      have HB2 := hide hb2
      have HAT := hide hat
      clear hs2 hgd hat hb2
      unfold stampOf at hen
      unfold stampOf
      go_wp2_with fail
      refine (expired_any nb p na ne (addW 0 d) (addE 0 0 d) _ h1 h1' aw0 aw1 ?_).mono ?_
      · rw [World.cell?_alloc_old _ _ _ (by simp; omega)]
        exact hn2
      rintro e w3 ⟨rfl, hb3⟩
      have hg3 : (w2.alloc (.cells #[.int .u64 (addW 0 d), .int .i64 (addE 0 0 d), .pointer none, .int .u64 0, .int .u64 0, .pointer none] 46)).grownBy w3 none := Below.asGrown hb3 none
      have hrg3 := (hrg2.alloc (.cells #[.int .u64 (addW 0 d), .int .i64 (addE 0 0 d), .pointer none, .int .u64 0, .int .u64 0, .pointer none] 46)).kept hg3 (by simp) (by simp)
      have hrow3 := (hrow2.alloc (.cells #[.int .u64 (addW 0 d), .int .i64 (addE 0 0 d), .pointer none, .int .u64 0, .int .u64 0, .pointer none] 46)).kept hg3 (by cases hv : u7.ownBlock <;> simp)
      have hb23 : Below w2.heap.size w2 w3 := ((Below.refl _ _).alloc (Nat.le_refl _) _).trans (hb3.mono (by simp))
      have v0 := (hb23.cell (p := ⟨w.heap.size, 0, none⟩) hl2).trans u0
      have v1 := (hb23.cell (p := ⟨w.heap.size, 1, none⟩) hl2).trans u1
      have v2 := (hb23.cell (p := ⟨w.heap.size, 2, none⟩) hl2).trans u2
      have hbw3 : Below w.heap.size w w3 := HB2.out.trans (hb23.mono (by omega))
      have HBW3 := hide hbw3
      have hl3 : w.heap.size + 1 ≤ w3.heap.size := by have := hb23.size; omega
      have hold : decide (wrap64 (3 * p) < subF na ne (addW 0 d) (addE 0 0 d)) = oldB p na ne d := rfl
      rw [hold]
      clear hold hb3 hg3 hb23 hbw3 hrg2 hrow2 u0 u1 u2 t0 t1 t2
      cases ho : oldB p na ne d with
      | true =>
        have HO := hide ho
        clear ho
        go_wp2_with fail
        go_roundw
        case rel =>
          refine ⟨_, cnt2, ss, hrg3, by omega, hrow3, ⟨hC.out.1, fun y => ?_⟩, HBW3.out, v0, v1, v2⟩
          rw [hC.out.2 y]
          by_cases hxy : y = x
          · subst hxy
            constructor
            · rintro ⟨h, _⟩
              rw [hlk] at h
              cases h
            · rintro ⟨_, d', hd', ho'⟩
              rw [HGD.out] at hd'
              cases hd'
              rw [HO.out] at ho'
              cases ho'
          · have : (Lit.string y).sameKey (.string x) = false := by simp [Lit.sameKey, hxy]
            simp [this]
        case measure => rw [hrg3.left_eq, hrg.left_eq]; exact hlt
      | false =>
        have HO := hide ho
        clear ho
        go_wp2_with (first
          | (at_builtin; refine wpList_append_own _ rfl _ _ 91 rfl (w.heap.size + 1) 9 i0 (.string ⟨#[]⟩) 1 16 Ybad.underlying91 hi hz0 hz1 hz2 rfl (by decide) _ _ _ rfl (hrow3.alloc _) ⟨w3.heap.size, 0, none⟩ 1 1 [encStr x] rfl rfl (cell_one_new _ _ _) (by simp [Value.oneCell', encStr]) (by unfold maxLen at *; omega) (by omega) (by simp; omega) ?_; intro v' w4 hown' hg4 hnil4; go_frame))
        have hrg4 := (hrg3.alloc (.cells #[encStr x] 9)).kept hg4 (row_ne_low hrow3 (by omega)) (row_ne_iter hrow3 hrg3)
        have hne := row_ne_low hrow3 (b := w.heap.size) (by omega)
        go_roundw
        case rel =>
          refine ⟨_, cnt2, ss ++ [x], hrg4, by simp; omega, by simpa using hown', ⟨?_, fun y => ?_⟩, ?_, ?_, ?_, ?_⟩
          · rw [List.nodup_append]
            refine ⟨hC.out.1, by simp, fun a ha b hb => ?_⟩
            simp at hb
            subst hb
            intro e
            subst e
            have := ((hC.out.2 a).1 ha).1
            rw [hlk] at this
            cases this
          · rw [List.mem_append, hC.out.2 y, List.mem_singleton]
            by_cases hxy : y = x
            · subst hxy
              have : (Lit.string y).sameKey (.string y) = true := by simp [Lit.sameKey]
              simp [this, HGD.out, HO.out]
            · have : (Lit.string y).sameKey (.string x) = false := by simp [Lit.sameKey, hxy]
              simp [this, hxy]
          · exact (HBW3.out.alloc (by omega) _).grown hg4 (by simp; omega) (fun j hj => by have := (hrow3.lt j hj).1; omega)
          · exact hg4.cell (a := ⟨w.heap.size, 0, none⟩) (by rw [World.cell?_alloc_old _ _ _ (by simp; omega)]; exact v0) hne
          · exact hg4.cell (a := ⟨w.heap.size, 1, none⟩) (by rw [World.cell?_alloc_old _ _ _ (by simp; omega)]; exact v1) hne
          · exact hg4.cell (a := ⟨w.heap.size, 2, none⟩) (by rw [World.cell?_alloc_old _ _ _ (by simp; omega)]; exact v2) hne
        case measure => rw [hrg4.left_eq, hrg.left_eq]; exact hlt
end Go.Proofs.YbulkdlbcDoor
