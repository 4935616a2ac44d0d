/-
  THE WALK of the law 'LawS5606AWhole' (function 3).
-/
import Derived.Test.YbulkdlbqCopy
import Derived.Deep.CutRange
import Derived.Deep.CutBlock
namespace Go.Proofs.Ybulkdlbq
open Go.RowKit

theorem hinfo28 : Yba.prog.info? 28 = some Yba.t28 := by kernel_rfl
theorem cell_of_block {w : World} {q i : Nat} {C : Array Value} {t : TypeId} {v : Value} (h : w.heap[q]? = some (.cells C t (0, 0))) (hv : C[i]? = some v) : w.cell? ⟨q, i, none⟩ = some v := by
  simp only [World.cell?, h, hv]
  rfl

theorem dcTo_le (g : Nat → List UInt8) : ∀ k, dcTo g k ≤ k
  | 0 => Nat.le_refl _
  | k + 1 => by
    have := dcTo_le g k
    unfold dcTo
    split <;> omega

theorem same_str {a b : ByteArray} (h : a.data.toList = b.data.toList) : (a.toList == b.toList) = true := by
  rw [ByteArray.toList_eq, ByteArray.toList_eq, h]
  simp
theorem other_str {a b : ByteArray} (h : ¬ a.data.toList = b.data.toList) : (a.toList == b.toList) = false := by
  rw [ByteArray.toList_eq, ByteArray.toList_eq]
  simpa using h
theorem any_hit {g : Nat → List UInt8} {k : Nat} {s : List UInt8} (h : g k = s) : (List.range (k + 1)).any (fun j => g j == s) = true := by
  rw [any_snoc, h]
  simp
theorem any_miss {g : Nat → List UInt8} {k : Nat} {s : List UInt8} (h : ¬ g k = s) : (List.range (k + 1)).any (fun j => g j == s) = (List.range k).any (fun j => g j == s) := by
  rw [any_snoc]
  have : (g k == s) = false := by simpa using h
  rw [this]
  simp

set_option maxRecDepth 100000 in
set_option maxHeartbeats 400000 in
theorem law_big (ao : Option Addr) (n c : Nat) (pre : ByteArray) (w : World) (hn : 4096 < n) (hnm : n ≤ maxLen) :
    Calls Yba.prog 3 #[.slice ao n c, .string pre] w fun e w' => e = .returned (.bool true) ∧ Below w.heap.size w w' := by
  unfold maxLen at hnm
  have hn' : (4096 : Int) < (n : Int) := by omega
  go_enter Yba.func3, Yba.ntmps3
  go_wp2
  go_ret
  exact ⟨rfl, Below.refl _ _⟩

set_option maxRecDepth 100000 in
set_option maxHeartbeats 1000000 in
theorem law_walk (ao : Option Addr) (n c : Nat) (A : Nat → ByteArray) (L : Nat → Int) (pre : ByteArray) (w : World) (hn : n ≤ 4096) (hA : ∀ i, i < n → (A i).size ≤ maxLen) (hpre : pre.size ≤ maxLen)
    (hcell : ∀ i, i < n → ∃ b o, ao = some ⟨b, o, none⟩ ∧ w.cell? ⟨b, o + i * 2, none⟩ = some (.string (A i)) ∧ w.cell? ⟨b, o + i * 2 + 1, none⟩ = some (.int .i64 (L i))) :
    Calls Yba.prog 3 #[.slice ao n c, .string pre] w fun e w' => e = .returned (.bool true) ∧ Below w.heap.size w w' := by
  have hn' : ¬ (4096 : Int) < (n : Int) := by omega
  have hmk := make_run n hn
  obtain ⟨W2, hcp, hk2, hB2, hlt2⟩ := copy_run ao n c A L w hcell
  have HC := hide hcell
  have HA := hide hA
  have HK2 := hide hk2
  have HB2 := hide hB2
  have HP := hide hpre
  clear hcell hA hk2 hB2 hpre
  have hmm := @run_makeMap Yba.prog
  go_enter Yba.func3, Yba.ntmps3
  go_wp2_with fail
  refine (newTally_any W2).mono ?_
  rintro e w3 ⟨T, rfl, hb3, hT0, hT1, hTc, hTf⟩
  obtain ⟨W4, hins, hsm4, hg4⟩ := SM.upd (P := Yba.prog) (e := 25) (t := 29) (SM.made (w3.alloc (.cells #[.bool true, .pointer none] 28)) Yba.prog 9) Yba.underlying9 Yba.underlying29 (by unfold maxLen; omega) pre HP.out (.pointer (some ⟨w3.heap.size, 0, none⟩))
  simp only [World.size_alloc] at hins hsm4 hg4
  have HB3 := hide hb3
  have HSM4 := hide hsm4
  have HG4 := hide hg4
  clear hb3 hsm4 hg4
  obtain ⟨tv, hTc⟩ := Option.isSome_iff_exists.1 hTc
  have t4 : W4.cell? ⟨T, 17, none⟩ = some tv := HG4.out.cell (cell_later (((Below.refl _ w3).alloc (Nat.le_refl _) _).alloc (by simp) _) hTc) (by simp; omega)
  have f4 : W4.frozen? ⟨T, 17, none⟩ = false := by
    rw [World.frozen?_of_block (HG4.out.block T (by simp; omega) (by simp; omega))]
    rw [(((Below.refl _ w3).alloc (Nat.le_refl _) (.cells #[.bool true, .pointer none] 28)).alloc (by simp) (.map #[] 0)).frozen hT1]
    exact hTf
  -- the world ahead of watchFunded, and what it holds
  have hsz4 : w3.heap.size + 2 ≤ W4.heap.size := by have := HG4.out.size; simp at this; omega
  have h34 : ∀ a : Addr, a.block < w3.heap.size → W4.cell? a = w3.cell? a := by
    intro a ha
    rw [World.cell?_of_block (HG4.out.block a.block (by simp; omega) (by simp; omega))]
    exact (((Below.refl _ w3).alloc (Nat.le_refl _) (.cells #[.bool true, .pointer none] 28)).alloc (by simp) (.map #[] 0)).cell ha
  have h35 : ∀ a : Addr, a.block < W2.heap.size → (W4.setCell ⟨T, 17, none⟩ (.map (some (w3.heap.size + 1)))).cell? a = W2.cell? a := by
    intro a ha
    have hz := HB3.out.size
    rw [World.cell?_setCell_other _ _ _ _ (by intro e; rw [← e] at ha; simp at ha; omega), h34 a (by omega), HB3.out.cell ha]
  have s0 : (W4.setCell ⟨T, 17, none⟩ (.map (some (w3.heap.size + 1)))).heap[w3.heap.size]? = some (.cells #[.bool true, .pointer none] 28 (0, 0)) := by
    rw [Below.heap_setCell _ _ _ _ (by simp; omega), HG4.out.block _ (by simp; omega) (by simp), Below.heap_alloc _ _ _ (by simp)]
    exact new_block _ rfl
  have H35 := hide h35
  have HS0 := hide s0
  clear h34 h35 s0
  go_wp2_with fail
  refine (watch_any T ao n c A L _ hn HA.out (by rw [World.cell?_setCell_same _ _ _ t4]; rfl) (by rw [World.frozen?_setCell]; exact f4) ?_).mono ?_
  · intro i hi
    obtain ⟨b, o, h1, h2, h3⟩ := HC.out i hi
    have hlb := World.block_lt_of_cell? w _ h2
    have hlb' : b < w.heap.size := hlb
    have hz := HB2.out.size
    exact ⟨b, o, h1, by omega, by rw [H35.out ⟨b, _, none⟩ (by show b < _; omega)]; exact cell_later HB2.out h2, by rw [H35.out ⟨b, _, none⟩ (by show b < _; omega)]; exact cell_later HB2.out h3⟩
  rintro e w6 ⟨rfl, hg6, hT6, f, hsm6, hfi6⟩
  simp only [World.size_setCell] at hsm6 hfi6 hT6
  have hz6 := hg6.size
  simp only [World.size_setCell] at hz6
  obtain ⟨M, hM⟩ : ∃ M, M = W4.heap.size := ⟨_, rfl⟩
  rw [← hM] at hsm6 hfi6 hT6
  have HSM6 := hide hsm6
  have HFI6 := hide hfi6
  have hSM : w3.heap.size + 2 ≤ M := by omega
  -- what the last world holds
  have F1 : Hid (∀ i, i < n → ∃ b o, ao = some ⟨b, o, none⟩ ∧ w6.cell? ⟨b, o + i * 2, none⟩ = some (.string (A i)) ∧ w6.cell? ⟨b, o + i * 2 + 1, none⟩ = some (.int .i64 (L i))) := by
    intro i hi
    obtain ⟨b, o, h1, h2, h3⟩ := HC.out i hi
    have hlb' : b < w.heap.size := World.block_lt_of_cell? w _ h2
    have hz := HB2.out.size
    exact ⟨b, o, h1, hg6.cell (by rw [H35.out ⟨b, _, none⟩ (by show b < _; omega)]; exact cell_later HB2.out h2) (by simp; omega), hg6.cell (by rw [H35.out ⟨b, _, none⟩ (by show b < _; omega)]; exact cell_later HB2.out h3) (by simp; omega)⟩
  have F2 : Hid (∀ i, i < n → w6.cell? ⟨w.heap.size, i * 2, none⟩ = some (.string (A i)) ∧ w6.cell? ⟨w.heap.size, i * 2 + 1, none⟩ = some (.int .i64 (L i))) := by
    intro i hi
    obtain ⟨h2, h3⟩ := HK2.out i hi
    exact ⟨hg6.cell (by rw [H35.out ⟨w.heap.size, _, none⟩ hlt2]; exact h2) (by simp; omega), hg6.cell (by rw [H35.out ⟨w.heap.size, _, none⟩ hlt2]; exact h3) (by simp; omega)⟩
  have S6 : Hid (w6.heap[w3.heap.size]? = some (.cells #[.bool true, .pointer none] 28 (0, 0))) := (hg6.block _ (by simp; omega) (by simp; omega)).trans HS0.out
  have s60 : w6.cell? ⟨w3.heap.size, 0, none⟩ = some (.bool true) := cell_of_block S6.out rfl
  have s61 : w6.cell? ⟨w3.heap.size, 1, none⟩ = some (.pointer none) := cell_of_block S6.out rfl
  have F5 : Hid (SM Yba.prog 9 w6 (w3.heap.size + 1) 1 1 (bind (fun _ => none) pre.data.toList (.pointer (some ⟨w3.heap.size, 0, none⟩)))) := by
    have h := HSM4.out
    simp only [Option.isSome_none, Bool.false_eq_true, if_false] at h
    refine h.same ?_
    rw [hg6.block (w3.heap.size + 1) (by simp; omega) (by simp; omega), Below.heap_setCell _ _ _ _ (by simp; omega)]
  have F7 : Hid (Below w.heap.size w w6) := by
    have hz := HB2.out.size
    have hz3 := HB3.out.size
    refine Below.grown (Below.setCell (Below.grown (((HB2.out.trans (HB3.out.mono hz)).alloc (by omega) _).alloc (by simp; omega) _) HG4.out (by simp; omega) (fun j hj => by simp at hj; omega)) (p := ⟨T, 17, none⟩) (by show w.heap.size ≤ T; omega) _) hg6 (by simp; omega) (fun j hj => by simp at hj; omega)
  clear hM hcp hmk hins hg6 hsm6 hfi6 H35 HS0 HK2 HC HSM4 HG4 HB3 t4 f4 hTf hTc hmm
  go_wp2_with fail
  go_loopg [9] n (fun gk i wr => ∃ (k q : Nat), gk + k = n ∧ i = .int .i64 k ∧ wr = w6.drewN q)
  case atStart => exact ⟨0, 0, by omega, rfl, rfl⟩
  case round =>
    obtain ⟨k, q, hk, rfl, rfl⟩ := hrel
    by_cases hkn : k < n
    · obtain ⟨b, o, rfl, c0, c1⟩ := F1.out k hkn
      obtain ⟨d0, d1⟩ := F2.out k hkn
      have hkn' : (k : Int) < (n : Int) := by omega
      go_wp2_with fail
      go_quiet (fail)
      go_wp2
      go_roundg (gk - 1)
      case measure => omega
      case rel => exact ⟨k + 1, _, by omega, by go_num, rfl⟩
    · have he := fun (w : World) (r : Option Nat) => run_eql_map_nil (P := Yba.prog) w 29 9 25 r Yba.underlying29
      go_wp2_with fail
      go_loopg [10, 11, 12] n (fun gk ds ls i wr => ∃ (k q : Nat), gk + k = n ∧ i = .int .i64 k ∧ ds = .int .i64 (dcTo (fun i => (A i).data.toList) k : Nat) ∧ ls = .bool ((List.range k).any (fun j => (A j).data.toList == pre.data.toList)) ∧ wr = w6.drewN q)
      case atStart => exact ⟨0, q, by omega, rfl, rfl, rfl, rfl⟩
      case round =>
        obtain ⟨k2, q2, hk2, rfl, rfl, rfl, rfl⟩ := hrel
        by_cases hkn2 : k2 < n
        · obtain ⟨b, o, rfl, c0, c1⟩ := F1.out k2 hkn2
          have G1 : Hid (∀ i, i < n → w6.cell? ⟨b, o + i * 2, none⟩ = some (.string (A i))) := by
            intro i hi
            obtain ⟨b', o', e1, e2, _⟩ := F1.out i hi
            simp only [Option.some.injEq, Addr.mk.injEq, and_true] at e1
            obtain ⟨rfl, rfl⟩ := e1
            exact e2
          have hkn' : (k2 : Int) < (n : Int) := by omega
          go_upto_if 94 with (fail)
          go_cut [11] from 82 to 173 (fun l wc => l = .bool ((List.range (k2 + 1)).any (fun j => (A j).data.toList == pre.data.toList)) ∧ wc = w6.drewN q2)
          case first =>
            by_cases hp : (A k2).data.toList = pre.data.toList
            · have HX := hide (any_hit (g := fun i => (A i).data.toList) hp)
              rw [same_str hp]
              clear hp
              go_wp2
              go_meet
              case rel => exact ⟨by rw [HX.out], rfl⟩
            · have HX := hide (any_miss (g := fun i => (A i).data.toList) hp)
              rw [other_str hp]
              clear hp
              go_wp2
              go_meet
              case rel => exact ⟨by rw [HX.out], rfl⟩
          case rest =>
            obtain ⟨rfl, rfl⟩ := hcut
            go_upto_block 4 with (fail)
            go_cut [13] from 82 to 173 (fun fs wc => fs = .bool (!(List.range k2).any (fun j => (A j).data.toList == (A k2).data.toList)) ∧ ∃ q, wc = w6.drewN q)
            case first =>
              go_wp2_with fail
              go_loopg [13, 14] k2 (fun gk fs j wr => ∃ (m q : Nat), gk + m = k2 ∧ j = .int .i64 m ∧ fs = .bool true ∧ Hid ((List.range m).any (fun j => (A j).data.toList == (A k2).data.toList) = false) ∧ wr = w6.drewN q)
              case atStart => exact ⟨0, q2, by omega, rfl, rfl, rfl, rfl⟩
              case round =>
                obtain ⟨m, q3, hm, rfl, rfl, HX, rfl⟩ := hrel
                by_cases hmk : m < k2
                · have e0 := G1.out m (by omega)
                  have hmk' : (m : Int) < (k2 : Int) := by omega
                  have hmn' : (m : Int) < (n : Int) := by omega
                  by_cases hp : (A m).data.toList = (A k2).data.toList
                  · have HY : Hid ((List.range k2).any (fun j => (A j).data.toList == (A k2).data.toList) = true) := by
                      show _ = _
                      rw [List.any_eq_true]
                      exact ⟨m, List.mem_range.2 hmk, by simpa using hp⟩
                    have hb := same_str hp
                    clear hp
                    go_wp2_with fail
                    go_quiet (fail)
                    go_wp2
                    go_meet
                    case rel => exact ⟨by rw [HY.out]; rfl, _, World.drewN_drewN _ _ _⟩
                  · have HY := hide (any_miss (g := fun i => (A i).data.toList) hp)
                    have hb := other_str hp
                    clear hp
                    go_wp2_with fail
                    go_quiet (fail)
                    go_wp2
                    go_roundg (gk - 1)
                    case measure => omega
                    case rel => exact ⟨m + 1, _, by omega, by go_num, rfl, HY.out.trans HX.out, rfl⟩
                · obtain rfl : m = k2 := by omega
                  go_wp2_with fail
                  go_meet
                  case rel => exact ⟨by rw [HX.out]; rfl, _, rfl⟩
            case rest =>
              obtain ⟨rfl, q3, rfl⟩ := hcut
              have hdc := dcTo_le (fun i => (A i).data.toList) k2
              go_upto_if 111 with (fail)
              go_cut [10, 13] from 82 to 173 (fun d _ wc => d = .int .i64 (dcTo (fun i => (A i).data.toList) (k2 + 1) : Nat) ∧ wc = w6.drewN q3)
              case first =>
                cases hany : (List.range k2).any (fun j => (A j).data.toList == (A k2).data.toList) with
                | true =>
                  have HY : Hid (dcTo (fun i => (A i).data.toList) (k2 + 1) = dcTo (fun i => (A i).data.toList) k2) := by show _ = _; simp only [dcTo, hany, if_true]
                  clear hany
                  go_wp2
                  go_meet
                  case rel => exact ⟨by rw [HY.out], rfl⟩
                | false =>
                  have HY : Hid (dcTo (fun i => (A i).data.toList) (k2 + 1) = dcTo (fun i => (A i).data.toList) k2 + 1) := by show _ = _; simp only [dcTo, hany]; rfl
                  clear hany
                  go_wp2
                  go_meet
                  case rel => exact ⟨by rw [HY.out]; go_num, rfl⟩
              case rest =>
                obtain ⟨rfl, rfl⟩ := hcut
                have hsome : (f (A k2).data.toList).isSome = true := by
                  rw [HFI6.out.there, List.any_eq_true]
                  exact ⟨k2, List.mem_range.2 hkn2, by simp⟩
                obtain ⟨v, hv⟩ := Option.isSome_iff_exists.1 hsome
                obtain ⟨Q, rfl, hQ1, hQ⟩ := HFI6.out.val _ _ hv
                have p0 : w6.cell? ⟨Q, 0, none⟩ = some (.bool false) := cell_of_block hQ rfl
                have p1 : w6.cell? ⟨Q, 1, none⟩ = some (.pointer none) := cell_of_block hQ rfl
                have hpo : ∀ q, (binOp .eql 25 (.pointer (some ⟨Q, 0, none⟩)) (.pointer (some ⟨w3.heap.size, 0, none⟩))).run Yba.prog (w6.drewN q) = .ok (.bool false) (w6.drewN q) := fun q =>
                  run_eql_ptr_other (P := Yba.prog) (w6.drewN q) Yba.underlying25 hinfo28 (by decide) (by intro e; injection e; omega) hQ S6.out
                have HQ := hide hQ
                clear hQ
                have hl : ∀ q, (Instr.lookup 29 (.map (some M)) (.string (A k2)) false).run Yba.prog (w6.drewN q) = .ok (.pointer (some ⟨Q, 0, none⟩)) (w6.drewN q) := fun q => by
                  have h := (HSM6.out.same (w' := w6.drewN q) rfl).look Yba.underlying9 Yba.underlying29 (zero25 _) (A k2) (HA.out k2 hkn2)
                  rw [hv] at h
                  exact h
                have HV := hide hv
                clear hv hsome
                go_wp2_with fail
                go_quiet (fail)
                go_wp2_with fail
                go_loopg [16] k2 (fun gk j wr => ∃ (m q : Nat), gk + m = k2 ∧ j = .int .i64 m ∧ wr = w6.drewN q)
                case atStart => exact ⟨0, _, by omega, rfl, rfl⟩
                case round =>
                  obtain ⟨m, q4, hm, rfl, rfl⟩ := hrel
                  by_cases hmk : m < k2
                  · have e0 := G1.out m (by omega)
                    have hmk' : (m : Int) < (k2 : Int) := by omega
                    have hmn' : (m : Int) < (n : Int) := by omega
                    by_cases hp : (A m).data.toList = (A k2).data.toList
                    · have hb := same_str hp
                      clear hp
                      go_wp2_with fail
                      go_quiet (fail)
                      go_wp2
                      go_roundg (gk - 1)
                      case measure => omega
                      case rel => exact ⟨m + 1, _, by omega, by go_num, rfl⟩
                    · have hsome : (f (A m).data.toList).isSome = true := by
                        rw [HFI6.out.there, List.any_eq_true]
                        exact ⟨m, List.mem_range.2 (by omega), by simp⟩
                      obtain ⟨v, hv⟩ := Option.isSome_iff_exists.1 hsome
                      obtain ⟨Q', rfl, _, hQ'⟩ := HFI6.out.val _ _ hv
                      have hne : Q' ≠ Q := by
                        intro e
                        subst e
                        exact hp (HFI6.out.apart _ _ _ hv HV.out)
                      have hl2 : ∀ q, (Instr.lookup 29 (.map (some M)) (.string (A m)) false).run Yba.prog (w6.drewN q) = .ok (.pointer (some ⟨Q', 0, none⟩)) (w6.drewN q) := fun q => by
                        have h := (HSM6.out.same (w' := w6.drewN q) rfl).look Yba.underlying9 Yba.underlying29 (zero25 _) (A m) (HA.out m (by omega))
                        rw [hv] at h
                        exact h
                      have hpo2 : ∀ q, (binOp .eql 25 (.pointer (some ⟨Q', 0, none⟩)) (.pointer (some ⟨Q, 0, none⟩))).run Yba.prog (w6.drewN q) = .ok (.bool false) (w6.drewN q) := fun q =>
                        run_eql_ptr_other (P := Yba.prog) (w6.drewN q) Yba.underlying25 hinfo28 (by decide) (by intro e; injection e; omega) hQ' HQ.out
                      have hb := other_str hp
                      clear hp hv hsome hQ' hne
                      go_wp2_with fail
                      go_quiet (fail)
                      go_wp2
                      go_roundg (gk - 1)
                      case measure => omega
                      case rel => exact ⟨m + 1, _, by omega, by go_num, rfl⟩
                  · go_wp2_with fail
                    go_roundg (n - (k2 + 1))
                    case measure => omega
                    case rel => exact ⟨k2 + 1, _, by omega, by go_num, rfl, rfl, rfl⟩
        · obtain rfl : k2 = n := by omega
          have hlM : ∀ (q : Nat) (ty : TypeId), (Builtin.len_ #[29] ty #[.map (some M)]).run Yba.prog (w6.drewN q) = .ok (.int .i64 (dcTo (fun i => (A i).data.toList) k2 : Nat)) (w6.drewN q) := fun q ty =>
            (HSM6.out.same (w' := w6.drewN q) rfl).len Yba.underlying29 ty
          have hlO : ∀ (q : Nat) (ty : TypeId), (Builtin.len_ #[29] ty #[.map (some (w3.heap.size + 1))]).run Yba.prog (w6.drewN q) = .ok (.int .i64 1) (w6.drewN q) := fun q ty =>
            (F5.out.same (w' := w6.drewN q) rfl).len Yba.underlying29 ty
          have hoO : ∀ q, (Instr.lookup 29 (.map (some (w3.heap.size + 1))) (.string pre) false).run Yba.prog (w6.drewN q) = .ok (.pointer (some ⟨w3.heap.size, 0, none⟩)) (w6.drewN q) := fun q => by
            have h := (F5.out.same (w' := w6.drewN q) rfl).look Yba.underlying9 Yba.underlying29 (zero25 _) pre HP.out
            simpa [bind] using h
          have hpp : ∀ q, (binOp .neq 25 (.pointer (some ⟨w3.heap.size, 0, none⟩)) (.pointer (some ⟨w3.heap.size, 0, none⟩))).run Yba.prog (w6.drewN q) = .ok (.bool false) (w6.drewN q) := fun q =>
            run_neq_ptr_same (P := Yba.prog) (w6.drewN q) _ Yba.underlying25 hinfo28
          cases hany : (List.range k2).any (fun j => (A j).data.toList == pre.data.toList) with
          | true =>
            go_wp2
            go_ret
            exact ⟨rfl, below_drewN F7.out _⟩
          | false =>
            have hno : f pre.data.toList = none := by
              have h := HFI6.out.there pre.data.toList
              rw [hany] at h
              simpa using h
            have hok : ∀ q, (Instr.lookup 29 (.map (some M)) (.string pre) true).run Yba.prog (w6.drewN q) = .ok (.tuple #[.pointer none, .bool false]) (w6.drewN q) := fun q => by
              have h := (HSM6.out.same (w' := w6.drewN q) rfl).look_ok Yba.underlying9 Yba.underlying29 (zero25 _) pre HP.out
              rw [hno] at h
              exact h
            clear hno
            go_wp2
            go_ret
            exact ⟨rfl, below_drewN F7.out _⟩
end Go.Proofs.Ybulkdlbq
