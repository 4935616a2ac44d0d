/-
  THE WALK of the law 'LawS5605BWhole' (function 3), out of its callees' contracts.
-/
import Derived.Test.YbulkdlbcFmtSame
import Derived.Test.YbulkdlbcFmtName
import Derived.Test.YbulkdlbcFmtShelf
import Derived.Laws.CopyOwn
import Derived.Deep.OwnRows
import Derived.Deep.CutRange
namespace Go.Proofs.YbulkdlbcFmt
open Go.RowKit Go.Extern.Stop Go.Stop Go.Extern

theorem size5 : (Ybaf.prog.info? 5).map (·.size) = some 1 := by kernel_rfl

/-- 'keep := make([]byte, n); copy(keep, b)': what the copy does. -/
theorem copy_run (ao : Option Addr) (n c : Nat) (zs : List Int) (wc : World) (hz : zs.length = n)
    (hcell : ∀ i, i < n → ∃ b o, ao = some ⟨b, o, none⟩ ∧ wc.cell? ⟨b, o + i, none⟩ = some (.int .u8 (zs.getD i 0))) :
    ∃ W2, (Builtin.copy_ #[22, 22] 3 #[.slice (some ⟨wc.heap.size, 0, none⟩) n n, .slice ao n c]).run Ybaf.prog (wc.alloc (.cells (madeCells #[.int .u8 0] n) 5)) = .ok (goInt n) W2 ∧
      (∀ i, i < n → W2.cell? ⟨wc.heap.size, i, none⟩ = some (.int .u8 (zs.getD i 0))) ∧ Below wc.heap.size wc W2 ∧ wc.heap.size < W2.heap.size := by
  have hba : Below wc.heap.size wc (wc.alloc (.cells (madeCells #[Value.int .u8 0] n) 5)) := (Below.refl _ _).alloc (Nat.le_refl _) _
  by_cases hn : n = 0
  · subst hn
    exact ⟨_, run_copy_none (P := Ybaf.prog) _ 22 22 3 5 _ _ 0 0 0 c Ybaf.underlying22 size5 rfl, fun i hi => by omega, hba, by simp⟩
  · obtain ⟨b, o, rfl, _⟩ := hcell 0 (by omega)
    have hlen : (zs.map (Value.int .u8)).length = n := by simpa using hz
    have hr := run_copy_row (P := Ybaf.prog) (wc.alloc (.cells (madeCells #[.int .u8 0] n) 5)) 22 22 3 5 wc.heap.size 0 n n ⟨b, o, none⟩ n c (madeCells #[.int .u8 0] n) 5 (zs.map (Value.int .u8)) Ybaf.underlying22 size5 (heap_alloc_new _ _)
      (by rw [hlen]; exact (Nat.min_self n).symm)
      (fun j v hj => by
        have hjl : j < n := by have := (List.getElem?_eq_some_iff.1 hj).1; omega
        obtain ⟨b', o', h1', h2'⟩ := hcell j hjl
        simp at h1'
        obtain ⟨rfl, rfl⟩ := h1'
        refine cell_later hba ?_
        rw [Addr.add_lit, h2', ← hj]
        simp [hz, hjl])
      (by rw [hlen, size_madeCells]; omega) (fun v hv => by simp at hv; obtain ⟨a, _, rfl⟩ := hv; rfl)
    rw [hlen] at hr
    refine ⟨_, hr, ?_, below_setRow hba (Nat.le_refl _) _, by simp [World.setRow]⟩
    intro i hi
    unfold World.cell?
    simp only
    rw [setRow_heap _ _ _ _ 5 _ (heap_alloc_new _ _)]
    simp only [List.take_zero, List.nil_append, List.getElem?_toArray]
    rw [List.getElem?_append_left (by omega)]
    simp [hz, hi]

theorem repeat_int (k : Int) (h0 : 0 ≤ k) (h1 : k ≤ 2000) (w : World) :
    Calls Ybaf.prog 4 #[.string ⟨#[97]⟩, .int .i64 k] w fun e w' => (∃ s : ByteArray, e = .returned (.string s) ∧ s.size ≤ 2000) ∧ Below w.heap.size w w' := by
  obtain ⟨c, rfl⟩ := Int.eq_ofNat_of_zero_le h0
  refine (Ybaf.strings_Repeat ⟨#[97]⟩ c w (by omega) (by simp [ByteArray.size]; omega)).mono ?_
  rintro e w' ⟨rfl, hb⟩
  refine ⟨⟨_, rfl, ?_⟩, hb⟩
  have : (Lib.repeatL [(97 : UInt8)] c).length = c := by simp [Lib.repeatL_length]
  simp [ByteArray.size, this]
  omega

/-- What 'out' holds, off the row that it owns. -/
theorem out_cells {w : World} {B n : Nat} {zs : List Int} {nm : ByteArray} {v : Value} (hz : zs.length = n)
    (h : w.ownsRow B 5 1 v (n + 2 + nm.size) (zs.map (Value.int .u8) ++ [.int .u8 ((nm.size : Int) / 256), .int .u8 ((nm.size : Int) % 256)] ++ Lib.strCells nm)) :
    ∃ g cap, v = .slice (some ⟨g, 0, none⟩) (n + 2 + nm.size) cap ∧ B ≤ g ∧
      ((∀ i, i < n → w.cell? ⟨g, i, none⟩ = some (.int .u8 (zs.getD i 0))) ∧ w.cell? ⟨g, n, none⟩ = some (.int .u8 ((nm.size : Int) / 256)) ∧ w.cell? ⟨g, n + 1, none⟩ = some (.int .u8 ((nm.size : Int) % 256)) ∧
        ∀ i (hi : i < nm.size), w.cell? ⟨g, n + 2 + i, none⟩ = some (.int .u8 nm[i].toNat)) ∧
      ∀ j, w.frozen? ⟨g, j, none⟩ = false := by
  have h0 := h
  obtain ⟨h1, ⟨_, h2⟩ | ⟨g, cap, cur, rfl, hB, hh, hn, hm, hs, ht⟩⟩ := h
  · omega
  refine ⟨g, cap, rfl, hB, ?_, ?_⟩
  · have hc := fun j (hj : j < (n + 2 + nm.size) * 1) => h0.cellAt (g := g) j hj
    have hzl : (zs.map (Value.int .u8)).length = n := by simpa using hz
    have hpl : (zs.map (Value.int .u8) ++ [Value.int .u8 ((nm.size : Int) / 256), .int .u8 ((nm.size : Int) % 256)]).length = n + 2 := by simp [hz]
    refine ⟨fun i hi => ?_, ?_, ?_, fun i hi => ?_⟩
    · rw [hc i (by omega), List.getElem?_append_left (by omega), List.getElem?_append_left (by omega)]
      simp [hz, hi]
    · rw [hc n (by omega), List.getElem?_append_left (by omega), List.getElem?_append_right (by omega), hzl]
      simp
    · rw [hc (n + 1) (by omega), List.getElem?_append_left (by omega), List.getElem?_append_right (by omega), hzl]
      simp
    · rw [hc (n + 2 + i) (by omega), List.getElem?_append_right (by omega), hpl]
      have hi' : i < nm.data.size := hi
      simp [Lib.strCells, ByteArray.getElem_eq_getElem_data]
      exact ⟨_, Array.getElem?_eq_getElem hi', rfl⟩
  · intro j
    simp [World.frozen?, hh]

set_option maxRecDepth 100000 in
set_option maxHeartbeats 400000 in
theorem law_walk (F : Interp) (ao : Option Addr) (n c : Nat) (zs : List Int) (nm : ByteArray) (pad : Int) (w : World) (hF : F.answers w.tape)
    (hp0 : 0 ≤ pad) (hp1 : pad ≤ 255) (hzs : zs.length = n) (hnc : n ≤ c) (hc : c ≤ 140737488355328) (hnmm : nm.size ≤ 140737488355328) (hnone : ao = none → n = 0)
    (hcell : ∀ i, i < n → ∃ b o, ao = some ⟨b, o, none⟩ ∧ w.cell? ⟨b, o + i, none⟩ = some (.int .u8 (zs.getD i 0))) :
    Calls Ybaf.prog 3 #[.slice ao n c, .string nm, .int .u8 pad] w fun e w' => e = .returned (.bool true) ∧ Below w.heap.size w w' := by
  have HC : Hid (∀ i, i < n → ∃ b o, ao = some ⟨b, o, none⟩ ∧ w.cell? ⟨b, o + i, none⟩ = some (.int .u8 (zs.getD i 0))) := hcell
  have HN : Hid (ao = none → n = 0) := hnone
  have HZ : Hid (zs.length = n) := hzs
  clear hcell hnone hzs
  by_cases hbig : 1048576 < n + nm.size
  · have hbig' : (1048576 : Int) < (n : Int) + (nm.size : Int) := by omega
    go_enter Ybaf.func3, Ybaf.ntmps3
    go_wp2
    go_ret
    exact ⟨rfl, Below.refl _ _⟩
  have hbig' : ¬ (1048576 : Int) < (n : Int) + (nm.size : Int) := by omega
  go_enter Ybaf.func3, Ybaf.ntmps3
  go_upto_if 22 with (fail)
  go_cut [1] from 15 (fun s1 wc => ∃ nm2 : ByteArray, s1 = .string nm2 ∧ nm2.size ≤ 1100000 ∧ Below w.heap.size w wc)
  case first =>
    by_cases hpz : pad = 0
    · have hpz' : (pad != 0) = false := by simp [hpz]
      clear hpz
      go_wp2
      go_meet
      case rel => exact ⟨nm, rfl, by omega, Below.refl _ _⟩
    · have hpz' : (pad != 0) = true := by simp [hpz]
      clear hpz
      go_wp2_with fail
      refine (repeat_int (1020 + pad % 8) (by omega) (by omega) _).mono ?_
      rintro e w1 ⟨⟨s, rfl, hs⟩, hb1⟩
      go_wp2
      go_meet
      case rel => exact ⟨_, rfl, by simp; omega, hb1⟩
  case rest =>
    obtain ⟨nm2, rfl, hnm2, hbc⟩ := hcut
    have HB : Hid (Below w.heap.size w wc) := hbc
    have hF' : F.answers wc.tape := by rw [hbc.tape]; exact hF
    have HC2 : Hid (∀ i, i < n → ∃ b o, ao = some ⟨b, o, none⟩ ∧ wc.cell? ⟨b, o + i, none⟩ = some (.int .u8 (zs.getD i 0))) := by
      intro i hi
      obtain ⟨b, o, h1, h2⟩ := HC.out i hi
      exact ⟨b, o, h1, cell_later hbc h2⟩
    clear hbc HC hF
    go_wp2_with fail
    refine (clip_any ao n c _ hnc (by unfold maxLen; omega)).mono ?_
    rintro e w' ⟨rfl, hw⟩
    rw [hw]; clear hw w'
    have hmk := fun w => run_make_row' (P := Ybaf.prog) 22 5 (.int .u8 0) 1 Ybaf.underlying22 info5 rfl .i64 .i64 n (by omega) (by omega) w
    obtain ⟨W2, hcp, hk2, hB2, hlt2⟩ := copy_run ao n c zs wc HZ.out HC2.out
    have HK2 : Hid (∀ i, i < n → W2.cell? ⟨wc.heap.size, i, none⟩ = some (.int .u8 (zs.getD i 0))) := hk2
    have HB2 : Hid (Below wc.heap.size wc W2) := hB2
    clear hk2 hB2
    have HC3 : Hid (∀ i, i < n → ∃ b o, ao = some ⟨b, o, none⟩ ∧ W2.cell? ⟨b, o + i, none⟩ = some (.int .u8 (zs.getD i 0))) := by
      intro i hi
      obtain ⟨b, o, h1, h2⟩ := HC2.out i hi
      exact ⟨b, o, h1, cell_later HB2.out h2⟩
    have hF2 : F.answers W2.tape := by rw [HB2.out.tape]; exact hF'
    clear hF' HC2
    by_cases hlong : 1024 < nm2.size
    · have hl : (1024 : Int) < (nm2.size : Int) := by omega
      go_wp2_with fail
      refine (name_long F _ nm2 _ hF2 hlong).mono ?_
      rintro e w3 ⟨⟨p, rfl⟩, hb3⟩
      go_wp2_with fail
      refine (same_any ao (some ⟨wc.heap.size, 0, none⟩) n c n (fun i => zs.getD i 0) w3 (by unfold maxLen; omega) ?_ ?_).mono ?_
      · intro i hi
        obtain ⟨b, o, h1, h2⟩ := HC3.out i hi
        exact ⟨b, o, h1, cell_later hb3 h2⟩
      · intro i hi
        exact ⟨_, _, rfl, by rw [Nat.zero_add]; exact cell_later hb3 (HK2.out i hi)⟩
      rintro e w4 ⟨rfl, q, rfl⟩
      have he := fun (w : World) (m k : Nat) => Lib.run_eql_slice_nil (P := Ybaf.prog) w 22 5 none m k 0 0 Ybaf.underlying22
      have hi26 := fun (w : World) (u : TypeId) (x : Value) => run_neq_iface_nil (P := Ybaf.prog) w 26 (by kernel_rfl) u x
      go_wp2
      go_ret
      exact ⟨rfl, below_drewN ((HB.out.trans (HB2.out.mono HB.out.size)).trans (hb3.mono (Nat.le_trans HB.out.size HB2.out.size))) _⟩
    · have hl : ¬ (1024 : Int) < (nm2.size : Int) := by omega
      go_wp2_with fail
      refine (name_short ao n nm2 (zs.map (Value.int .u8)) W2 HN.out (by simpa using HZ.out) ?_ (by omega) (by omega)).mono ?_
      · intro b hb j u hj
        have hz := HZ.out
        have hjl : j < n := by have := (List.getElem?_eq_some_iff.1 hj).1; simp at this; omega
        obtain ⟨b', o', h1', h2'⟩ := HC3.out j hjl
        rw [hb] at h1'
        simp at h1'
        subst h1'
        rw [Addr.add_lit, h2', ← hj]
        simp [hz, hjl]
      rintro e w3 ⟨v3, rfl, hown, hb3⟩
      obtain ⟨g, cap, rfl, hgB, ⟨hA, hB0, hB1, hCC⟩, hfrz⟩ := out_cells (HZ.out) hown
      have HA : Hid (∀ i, i < n → w3.cell? ⟨g, i, none⟩ = some (.int .u8 (zs.getD i 0))) := hA
      have HCC : Hid (∀ i (hi : i < nm2.size), w3.cell? ⟨g, n + 2 + i, none⟩ = some (.int .u8 nm2[i].toNat)) := hCC
      have HFZ : Hid (∀ j, w3.frozen? ⟨g, j, none⟩ = false) := hfrz
      clear hA hCC hfrz
      have HB3 : Hid (Below W2.heap.size W2 w3) := hb3
      clear hown hb3
      go_wp2_with fail
      refine (same_any ao (some ⟨wc.heap.size, 0, none⟩) n c n (fun i => zs.getD i 0) w3 (by unfold maxLen; omega) ?_ ?_).mono ?_
      · intro i hi
        obtain ⟨b, o, h1, h2⟩ := HC3.out i hi
        exact ⟨b, o, h1, cell_later HB3.out h2⟩
      · intro i hi
        exact ⟨_, _, rfl, by rw [Nat.zero_add]; exact cell_later HB3.out (HK2.out i hi)⟩
      rintro e w4 ⟨rfl, q, rfl⟩
      have hi26 := fun (w : World) => run_neq_nil_nil_at (P := Ybaf.prog) w 26 (by kernel_rfl)
      go_wp2_with fail
      go_loopg [12] n (fun gk i wr => ∃ (k q : Nat), gk + k = n ∧ i = .int .i64 k ∧ wr = w3.drewN q)
      case atStart => exact ⟨0, _, by omega, rfl, rfl⟩
      case round =>
        obtain ⟨k, q1, hk, rfl, rfl⟩ := hrel
        by_cases hlt : k < n
        · have c1 := HA.out k hlt
          have c2 := cell_later HB3.out (HK2.out k hlt)
          have hlt' : (k : Int) < (n : Int) := by omega
          have hlt2 : (k : Int) < ((n + 2 + nm2.size : Nat) : Int) := by omega
          go_wp2_with fail
          go_quiet (fail)
          go_wp2
          go_roundg (gk - 1)
          case measure => omega
          case rel => exact ⟨k + 1, _, by omega, by go_num, rfl⟩
        · go_wp2_with fail
          go_loopg [13] nm2.size (fun gk i wr => ∃ (k q : Nat), gk + k = nm2.size ∧ i = .int .i64 k ∧ wr = w3.drewN q)
          case atStart => exact ⟨0, _, by omega, rfl, rfl⟩
          case round =>
            obtain ⟨k2, q2, hk2, rfl, rfl⟩ := hrel
            by_cases hlt2 : k2 < nm2.size
            · have c1 := HCC.out k2 hlt2
              have hlt' : (k2 : Int) < (nm2.size : Int) := by omega
              have hlt3 : (n : Int) + 2 + (k2 : Int) < ((n + 2 + nm2.size : Nat) : Int) := by omega
              go_wp2_with fail
              go_quiet (fail)
              go_wp2
              go_roundg (gk - 1)
              case measure => omega
              case rel => exact ⟨k2 + 1, _, by omega, by go_num, rfl⟩
            · go_wp2_with fail
              go_loopg [14] (n + 2 + nm2.size) (fun gk i wr => ∃ (k : Nat), gk + k = n + 2 + nm2.size ∧ i = .int .i64 k ∧ Below W2.heap.size W2 wr ∧ (∀ j, j < n + 2 + nm2.size → ∃ v : Int, wr.cell? ⟨g, j, none⟩ = some (.int .u8 v)) ∧ (∀ j, wr.frozen? ⟨g, j, none⟩ = false))
              case atStart =>
                refine ⟨0, by omega, rfl, below_drewN HB3.out _, ?_, fun j => HFZ.out j⟩
                intro j hj
                by_cases h1 : j < n
                · exact ⟨_, HA.out j h1⟩
                · by_cases h2 : j = n
                  · subst h2; exact ⟨_, hB0⟩
                  · by_cases h3 : j = n + 1
                    · subst h3; exact ⟨_, hB1⟩
                    · have := HCC.out (j - (n + 2)) (by omega)
                      rw [show n + 2 + (j - (n + 2)) = j by omega] at this
                      exact ⟨_, this⟩
              case round =>
                obtain ⟨k3, hk3, rfl, hbr, hcr, hfr⟩ := hrel
                have HBR : Hid (Below W2.heap.size W2 wr) := hbr
                have HCR : Hid (∀ j, j < n + 2 + nm2.size → ∃ v : Int, wr.cell? ⟨g, j, none⟩ = some (.int .u8 v)) := hcr
                have HFR : Hid (∀ j, wr.frozen? ⟨g, j, none⟩ = false) := hfr
                clear hbr hcr hfr
                by_cases hlt3 : k3 < n + 2 + nm2.size
                · obtain ⟨v, c1⟩ := HCR.out k3 hlt3
                  have f1 := HFR.out k3
                  have hlt' : (k3 : Int) < ((n + 2 + nm2.size : Nat) : Int) := by omega
                  go_wp2
                  go_roundg (gk - 1)
                  case measure => omega
                  case rel =>
                    refine ⟨k3 + 1, by omega, by go_num, HBR.out.setCell hgB _, ?_, ?_⟩
                    · intro j hj
                      by_cases he : j = k3
                      · subst he
                        exact ⟨_, World.cell?_setCell_same _ _ _ c1⟩
                      · obtain ⟨v', c'⟩ := HCR.out j hj
                        refine ⟨v', ?_⟩
                        have hne : (⟨g, k3, none⟩ : Addr) ≠ ⟨g, j, none⟩ := by intro h; injection h with h1 h2 h3; omega
                        exact (World.cell?_setCell_other _ _ _ _ hne).trans c'
                    · intro j
                      rw [World.frozen?_setCell]
                      exact HFR.out j
                · go_wp2_with fail
                  refine (same_any ao (some ⟨wc.heap.size, 0, none⟩) n c n (fun i => zs.getD i 0) wr (by unfold maxLen; omega) ?_ ?_).mono ?_
                  · intro i hi
                    obtain ⟨b, o, h1, h2⟩ := HC3.out i hi
                    exact ⟨b, o, h1, cell_later HBR.out h2⟩
                  · intro i hi
                    exact ⟨_, _, rfl, by rw [Nat.zero_add]; exact cell_later HBR.out (HK2.out i hi)⟩
                  rintro e w5 ⟨rfl, q5, rfl⟩
                  go_wp2
                  go_ret
                  exact ⟨rfl, below_drewN ((HB.out.trans (HB2.out.mono HB.out.size)).trans (HBR.out.mono (Nat.le_trans HB.out.size HB2.out.size))) _⟩
end Go.Proofs.YbulkdlbcFmt
