/-
  THE WALK of (*Node).wire (function 7).
-/
import Derived.Test.YbulkdlbcDoorHolders
import Derived.Deep.RegionLaw
import Derived.Deep.Onto
import Derived.Laws.ResultCell
import Derived.Deep.CutRange
import Derived.Deep.CutBlock
import Derived.Deep.AppendLies
namespace Go.Proofs.YbulkdlbcDoor
open Go.RowKit Go.Maps Go.Sort

theorem info101 : (Ybad.prog.info? 101).map (fun i => (i.zero, i.size, i.bytes)) = some (some (.agg #[.string ⟨#[]⟩, .int .i64 0]), 2, 24) := by kernel_rfl

/-- One item of the wire, as its two cells. -/
def itemCells (age : List UInt8 → Int) (ts : List (List UInt8)) : List Value := ts.flatMap fun s => [encStr s, .int .i64 (age s)]

theorem own_form {w : World} {base : Nat} {e : TypeId} {size : Nat} {v : Value} {n : Nat} {xs : List Value} (h : w.ownsRow base e size v n xs) :
    ∃ ao cap, v = .slice ao n cap ∧ n ≤ cap ∧ ∀ j, j < n * size → ∃ gb, ao = some ⟨gb, 0, none⟩ ∧ base ≤ gb ∧ gb < w.heap.size ∧ w.cell? ⟨gb, j, none⟩ = xs[j]? := by
  rcases h.2 with ⟨hv, hn⟩ | ⟨g, cap, cur, hv, hb, hg, hc, hm, hs, ht⟩
  · exact ⟨none, 0, by rw [hv, hn], by omega, fun j hj => by subst hn; simp at hj⟩
  · refine ⟨some ⟨g, 0, none⟩, cap, hv, hc, fun j hj => ⟨g, rfl, hb, (Array.getElem?_eq_some_iff.1 hg).1, ?_⟩⟩
    subst hv
    exact h.cellAt j hj

theorem items_succ (age : List UInt8 → Int) (ts : List (List UInt8)) {k : Nat} (hk : k < ts.length) : itemCells age (ts.take (k + 1)) = itemCells age (ts.take k) ++ [encStr ts[k], .int .i64 (age ts[k])] := by
  rw [List.take_succ_eq_append_getElem hk]
  unfold itemCells
  rw [List.flatMap_append]
  rfl
theorem gb_drew {a b : World} {row : Option Nat} (h : a.grownBy b row) : a.grownBy b.drew row := ⟨h.os, h.tape, h.output, h.size, h.block⟩
theorem gb_alloc {a b : World} {row : Option Nat} (h : a.grownBy b row) (o : Obj) : a.grownBy (b.alloc o) row := h.trans (World.grownBy_alloc b o row)
theorem gb_below {a b c : World} {row : Option Nat} (h : a.grownBy b row) (k : Below b.heap.size b c) : a.grownBy c row := h.trans (Below.asGrown k row)
theorem gb_set {a b : World} {r i : Nat} (h : a.grownBy b (some r)) (u : Value) : a.grownBy (b.setCell ⟨r, i, none⟩ u) (some r) :=
  h.trans ⟨rfl, rfl, rfl, by simp, fun k _ hk => Below.heap_setCell _ _ _ _ (fun e => hk (by rw [e]))⟩
theorem gb_row {a b c : World} {row : Option Nat} {v : Value} (h : a.grownBy b row) (k : b.grownBy c v.ownBlock) (hv : ∀ j, v.ownBlock = some j → a.heap.size ≤ j) : a.grownBy c row := h.andThen k (fun j hj => .inl (hv j hj))

theorem after_call {wr w2 w1 : World} {r base size k : Nat} {e : TypeId} {hv : Value} {xs : List Value} (hg : w1.grownBy wr (some r)) (hb2 : Below wr.drew.heap.size wr.drew w2) {v0 : Value} (c0 : wr.cell? ⟨r, 0, none⟩ = some v0) (c1 : wr.cell? ⟨r, 1, none⟩ = some hv) (cf : wr.frozen? ⟨r, 1, none⟩ = false) (hown : wr.ownsRow base e size hv k xs) :
    w1.grownBy w2 (some r) ∧ w2.cell? ⟨r, 0, none⟩ = some v0 ∧ w2.cell? ⟨r, 1, none⟩ = some hv ∧ w2.frozen? ⟨r, 1, none⟩ = false ∧ w2.ownsRow base e size hv k xs ∧ r < w2.heap.size := by
  have hl := World.block_lt_of_cell? _ _ c1
  have hb : Below wr.heap.size wr w2 := ((Below.refl wr.heap.size wr).drew).trans hb2
  exact ⟨gb_below hg hb, (hb.cell (p := ⟨r, 0, none⟩) hl).trans c0, (hb.cell (p := ⟨r, 1, none⟩) hl).trans c1, (hb.frozen (p := ⟨r, 1, none⟩) hl).trans cf, hown.kept (Below.asGrown hb none) (by cases hv.ownBlock <;> simp), Nat.lt_of_lt_of_le hl hb.size⟩

theorem step_items {ops : Array Oper} {o : Oper} {a : Act} {K : Act → World → Prop} {Q : Exit → Act → World → Prop} {E : Prop} {w1 w2 : World} {r k : Nat} {hv : Value} {s : ByteArray} {age : Int} {xs : List Value} (hgd : o.guard = none) (sl x : Operand)
    (ho : o.op = .call { callee := .builtin .append, args := #[sl, x], argTypes := #[95, 95] }) (hs : a.eval sl = hv) (hx : a.eval x = .slice (some ⟨w2.heap.size, 0, none⟩) 1 1)
    (hg2 : w1.grownBy w2 (some r)) {v0 : Value} (c0 : w2.cell? ⟨r, 0, none⟩ = some v0) (c1 : w2.cell? ⟨r, 1, none⟩ = some hv) (cf : w2.frozen? ⟨r, 1, none⟩ = false) (hown2 : w2.ownsRow w1.heap.size 101 2 hv k xs) (hr : r < w1.heap.size) (hk : k < 4096)
    (h : ∀ gg cap w3, w3.ownsRow w1.heap.size 101 2 (.slice (some ⟨gg, 0, none⟩) (k + 1) cap) (k + 1) (xs ++ [.string s, .int .i64 age]) → w1.grownBy w3 (some r) → w3.cell? ⟨r, 0, none⟩ = some v0 → w3.cell? ⟨r, 1, none⟩ = some hv → w3.frozen? ⟨r, 1, none⟩ = false →
      K (a.put o.dst (.slice (some ⟨gg, 0, none⟩) (k + 1) cap)) w3) :
    if Region.wanted o (yielded ops a.tmps) = true then Oper.wp Ybad.prog o a (w2.alloc (.cells #[.string s, .int .i64 age] 101)) K Q else E := by
  obtain ⟨i0, hi, hz0, hz1, hz2⟩ := info_parts info101
  have hz := hg2.size
  have hrl : r < w2.heap.size := World.block_lt_of_cell? _ _ c1
  refine step_append_lies _ hgd sl x 95 ho w1.heap.size 101 i0 _ 2 24 Ybad.underlying95 hi hz0 hz1 hz2 rfl (by omega) hv k xs hs (hown2.alloc _) ⟨w2.heap.size, 0, none⟩ 1 1 [.string s, .int .i64 age] hx rfl
    (World.news_of_block (cs := #[.string s, .int .i64 age]) (t := 101) (fr := (0, 0)) (heap_alloc_new w2 _)) (by simp [Value.oneCell']) (by omega) (by unfold maxLen; omega) (by omega) (by simp; omega) (w2.heap.size + 1) (by simp) ?_
  intro gg cap w3 hown3 hg3 _ _
  have hne : some r ≠ hv.ownBlock := row_ne_low hown2 hr
  refine h gg cap w3 hown3 (gb_row (gb_alloc hg2 _) hg3 (fun j hj => (hown2.lt j hj).1)) (hg3.cell (by rw [World.cell?_alloc_old _ _ _ (by simp; omega)]; exact c0) hne) (hg3.cell (by rw [World.cell?_alloc_old _ _ _ (by simp; omega)]; exact c1) hne) ?_
  rw [hg3.frozen_far _ (by simp; omega) hne]
  exact (World.frozen?_of_block (Below.heap_alloc _ _ _ hrl)).trans cf

theorem step_sub {ops : Array Oper} {o : Oper} {a : Act} {w : World} {K : Act → World → Prop} {Q : Exit → Act → World → Prop} {E : Prop} {a1 e1 a2 e2 : Int} (hgd : o.guard = none) (s x : Operand)
    (ho : o.op = .call { callee := .value (.func 6), args := #[s, x], argTypes := #[26, 26] }) (hs : a.eval s = .agg #[.int .u64 a1, .int .i64 e1, .pointer none]) (hx : a.eval x = .agg #[.int .u64 a2, .int .i64 e2, .pointer none])
    (h1 : 0 ≤ a1) (h1' : a1 < 1000000000) (h2 : 0 ≤ a2) (h2' : a2 < 1000000000) (h : ∀ w2, Below w.heap.size w w2 → K (a.put o.dst (.int .i64 (subF a1 e1 a2 e2))) w2) :
    if Region.wanted o (yielded ops a.tmps) = true then Oper.wp Ybad.prog o a w K Q else E := by
  have hw : Region.wanted o (yielded ops a.tmps) = true := by simp [Region.wanted, hgd]
  rw [if_pos hw]
  unfold Oper.wp
  simp [execOp, ho, resolve, invoke, hs, hx, Result.andThen, Oper.upon]
  refine (sub_any a1 e1 a2 e2 w h1 h1' h2 h2').mono ?_
  rintro e w2 ⟨rfl, hb⟩
  exact h w2 hb

/-- What a round leaves. -/
def Left1 (w1 : World) (r k : Nat) (v0 : Value) (xs : List Value) (wx : World) : Prop :=
  ∃ gg cap, w1.grownBy wx (some r) ∧ wx.cell? ⟨r, 0, none⟩ = some v0 ∧ wx.cell? ⟨r, 1, none⟩ = some (.slice (some ⟨gg, 0, none⟩) k cap) ∧ wx.frozen? ⟨r, 1, none⟩ = false ∧ wx.ownsRow w1.heap.size 101 2 (.slice (some ⟨gg, 0, none⟩) k cap) k xs
theorem left1_of {w1 w3 : World} {r k gg cap : Nat} {hv v0 : Value} {xs : List Value} (hr : r < w1.heap.size) (hown : w3.ownsRow w1.heap.size 101 2 (.slice (some ⟨gg, 0, none⟩) k cap) k xs) (hg : w1.grownBy w3 (some r)) (c0 : w3.cell? ⟨r, 0, none⟩ = some v0) (c1 : w3.cell? ⟨r, 1, none⟩ = some hv) (cf : w3.frozen? ⟨r, 1, none⟩ = false) :
    Left1 w1 r k v0 xs (w3.setCell ⟨r, 1, none⟩ (.slice (some ⟨gg, 0, none⟩) k cap)) := by
  have hne := row_ne_low hown hr
  refine ⟨gg, cap, gb_set hg _, by rw [World.cell?_setCell_other _ _ _ _ (by simp)]; exact c0, World.cell?_setCell_same _ _ _ c1, by rw [World.frozen?_setCell]; exact cf, ?_⟩
  exact hown.kept (row := some r) ⟨rfl, rfl, rfl, by simp, fun j _ hj => Below.heap_setCell _ _ _ _ (fun e => hj (by rw [e]))⟩ (.inr (fun e => hne e.symm))

theorem field46 (a b c d e f : Value) (w : World) : (Instr.field 46 (.agg #[a, b, c, d, e, f]) 0).run Ybad.prog w = .ok (.agg #[a, b, c]) w := by kernel_rfl

theorem start3 (w : World) (a b c d e f g : Value) (t u v : TypeId) :
    let W := ((w.alloc (.cells #[a, b, c] t)).alloc (.cells #[d, e] u)).alloc (.cells #[f, g] v)
    (W.cell? ⟨w.heap.size, 0, none⟩ = some a ∧ W.cell? ⟨w.heap.size, 1, none⟩ = some b ∧ W.cell? ⟨w.heap.size, 2, none⟩ = some c) ∧
    (W.cell? ⟨w.heap.size + 1, 0, none⟩ = some d ∧ W.cell? ⟨w.heap.size + 1, 1, none⟩ = some e ∧ W.frozen? ⟨w.heap.size + 1, 0, none⟩ = false ∧ W.frozen? ⟨w.heap.size + 1, 1, none⟩ = false) ∧
    W.cell? ⟨w.heap.size + 1 + 1, 0, none⟩ = some f ∧ W.cell? ⟨w.heap.size + 1 + 1, 1, none⟩ = some g ∧ W.frozen? ⟨w.heap.size + 1 + 1, 1, none⟩ = false := by
  intro W
  have h0 : W.heap[w.heap.size]? = some (.cells #[a, b, c] t) := ((Below.heap_alloc _ _ _ (by simp only [World.size_alloc]; omega)).trans (Below.heap_alloc _ _ _ (by simp only [World.size_alloc]; omega))).trans (heap_alloc_new _ _)
  have h1 : W.heap[w.heap.size + 1]? = some (.cells #[d, e] u) := (Below.heap_alloc _ _ _ (by simp only [World.size_alloc]; omega)).trans (new_block _ (by simp only [World.size_alloc]))
  have h2 : W.heap[w.heap.size + 1 + 1]? = some (.cells #[f, g] v) := new_block _ (by simp only [World.size_alloc])
  simp [World.cell?, World.frozen?, h0, h1, h2]

set_option maxRecDepth 100000 in
set_option maxHeartbeats 1000000 in
theorem wire_any (nb rb mb n sz : Nat) (p na ne : Int) (name : ByteArray) (g : List UInt8 → Option Int) (w : World) (h1 : 0 ≤ na) (h1' : na < 1000000000) (hN : w.cell? ⟨nb, 26, none⟩ = some (.int .i64 p)) (hR : w.cell? ⟨rb, 21, none⟩ = some (.map (some mb)))
    (hM : SM Ybad.prog 9 w mb n sz (fun s => (g s).map stampOf)) (hn : n ≤ 4096) (age : List UInt8 → Int) (hage : ∀ s d, g s = some d → age s = ageOf na ne d ∧ s.length ≤ maxLen) :
    Calls Ybad.prog 7 #[.pointer (some ⟨nb, 0, none⟩), .string name, .pointer (some ⟨rb, 0, none⟩), .agg #[.int .u64 na, .int .i64 ne, .pointer none]] w fun e w' => ∃ (v : Value) (ts : List (List UInt8)),
      e = .returned (.tuple #[.agg #[.string name, v], .bool (decide (0 < ts.length))]) ∧ w'.ownsRow w.heap.size 101 2 v ts.length (itemCells age ts) ∧ (v = .slice none 0 0 ↔ ts = []) ∧ ts.Nodup ∧
      ts.Pairwise (fun x y => x ≤ y) ∧ (∀ s, s ∈ ts ↔ ∃ d, g s = some d ∧ oldB p na ne d = false) ∧ ts.length ≤ 4096 ∧ Below w.heap.size w w' := by
  obtain ⟨i0, hi, hz0, hz1, hz2⟩ := info_parts info101
  have hnl := World.block_lt_of_cell? w ⟨nb, 26, none⟩ hN
  have hrl := World.block_lt_of_cell? w ⟨rb, 21, none⟩ hR
  dsimp only at hnl hrl
  have HM := hide hM
  have HA := hide hage
  clear hM hage
  go_enter Ybad.func7, Ybad.ntmps7
  go_wp2_with fail
  generalize hW : (((w.alloc (.cells #[.int .u64 na, .int .i64 ne, .pointer none] 26)).alloc (.cells #[.string ⟨#[]⟩, .slice none 0 0] 97)).alloc (.cells #[.string name, .slice none 0 0] 97)) = W0
  have hW0 : Below w.heap.size w W0 := by
    rw [← hW]
    iterate 3 refine Below.alloc ?_ (by simp; try omega) _
    exact Below.refl _ _
  have hsz0 : W0.heap.size = w.heap.size + 1 + 1 + 1 := by rw [← hW]; simp only [World.size_alloc]
  obtain ⟨⟨q0, q1, q2⟩, ⟨r0, r1, rf0, rf1⟩, t0, t1, tf⟩ := start3 w (.int .u64 na) (.int .i64 ne) (.pointer none) (.string ⟨#[]⟩) (.slice none 0 0) (.string name) (.slice none 0 0) 26 97 97
  rw [hW] at q0 q1 q2 r0 r1 rf0 rf1 t0 t1 tf
  clear hW
  refine (holders_any nb rb mb n sz p na ne g W0 h1 h1' ((hW0.cell (p := ⟨nb, 26, none⟩) hnl).trans hN) ((hW0.cell (p := ⟨rb, 21, none⟩) hrl).trans hR) (HM.out.below hW0 HM.out.lt) hn).mono ?_
  rintro e w1 ⟨v1, ts, rfl, hown1, hnd, hpw, hmem, hlen4, hb1⟩
  obtain ⟨ao, cap, rfl, hcap, hts⟩ := own_form hown1
  have hsz1 := hb1.size
  have HB1 := hide hb1
  have HW1 := hide (hW0.trans (hb1.mono hW0.size))
  have HF := hide (show ts.Nodup ∧ ts.Pairwise (fun x y => x ≤ y) ∧ (∀ s, s ∈ ts ↔ ∃ d, g s = some d ∧ oldB p na ne d = false) from ⟨hnd, hpw, hmem⟩)
  have HTS := hide hts
  replace q0 := (hb1.cell (p := ⟨w.heap.size, 0, none⟩) (by simp only; omega)).trans q0
  replace q1 := (hb1.cell (p := ⟨w.heap.size, 1, none⟩) (by simp only; omega)).trans q1
  replace q2 := (hb1.cell (p := ⟨w.heap.size, 2, none⟩) (by simp only; omega)).trans q2
  replace r0 := (hb1.cell (p := ⟨w.heap.size + 1, 0, none⟩) (by simp only; omega)).trans r0
  replace r1 := (hb1.cell (p := ⟨w.heap.size + 1, 1, none⟩) (by simp only; omega)).trans r1
  replace rf0 := (hb1.frozen (p := ⟨w.heap.size + 1, 0, none⟩) (by simp only; omega)).trans rf0
  replace rf1 := (hb1.frozen (p := ⟨w.heap.size + 1, 1, none⟩) (by simp only; omega)).trans rf1
  replace t0 := (hb1.cell (p := ⟨w.heap.size + 1 + 1, 0, none⟩) (by simp only; omega)).trans t0
  replace t1 := (hb1.cell (p := ⟨w.heap.size + 1 + 1, 1, none⟩) (by simp only; omega)).trans t1
  replace tf := (hb1.frozen (p := ⟨w.heap.size + 1 + 1, 1, none⟩) (by simp only; omega)).trans tf
  clear hb1 hW0 hnd hpw hmem hts
  go_wp2_with fail
  go_loopg [20] ts.length (fun gk j wr => ∃ (k : Nat) (hv : Value), gk + k = ts.length ∧ j = .int .i64 k ∧ w1.grownBy wr (some (w.heap.size + 1 + 1)) ∧ wr.cell? ⟨w.heap.size + 1 + 1, 0, none⟩ = some (.string name) ∧ wr.cell? ⟨w.heap.size + 1 + 1, 1, none⟩ = some hv ∧
    wr.frozen? ⟨w.heap.size + 1 + 1, 1, none⟩ = false ∧ wr.ownsRow w1.heap.size 101 2 hv k (itemCells age (ts.take k)) ∧ (hv = .slice none 0 0 ↔ k = 0))
  case atStart => exact ⟨0, .slice none 0 0, by omega, rfl, World.grownBy.refl _ _, t0, t1, tf, World.ownsRow_nil _ _ _ _, by simp⟩
  case round =>
    obtain ⟨k, hv, hk, rfl, hg, c0, c1, cf, hown, hnil⟩ := hrel
    by_cases hkn : k < ts.length
    · obtain ⟨gb, rfl, hgb, hgl, hcell⟩ := HTS.out k (by omega)
      have hkn' : (k : Int) < (ts.length : Int) := by omega
      have hck : wr.cell? ⟨gb, k, none⟩ = some (encStr ts[k]) := hg.cell (by rw [hcell, List.getElem?_map, List.getElem?_eq_getElem hkn]; rfl) (by simp at hgb ⊢; omega)
      obtain ⟨d, hgd, hod⟩ := (HF.out.2.2 ts[k]).1 (List.getElem_mem hkn)
      obtain ⟨hagek, hlenk⟩ := HA.out _ _ hgd
      obtain ⟨aw0, aw1⟩ := addW_bounds (a := 0) (d := d) (by omega) (by omega)
      have HS : Hid (∀ w', w1.grownBy w' (some (w.heap.size + 1 + 1)) → w1.grownBy w' (some (w.heap.size + 1 + 1)) ∧ w'.cell? ⟨w.heap.size, 0, none⟩ = some (.int .u64 na) ∧ w'.cell? ⟨w.heap.size, 1, none⟩ = some (.int .i64 ne) ∧ w'.cell? ⟨w.heap.size, 2, none⟩ = some (.pointer none) ∧
          w'.cell? ⟨rb, 21, none⟩ = some (.map (some mb)) ∧ (Instr.lookup 30 (.map (some mb)) (encStr ts[k]) false).run Ybad.prog w' = .ok (.agg #[.int .u64 (addW 0 d), .int .i64 (addE 0 0 d), .pointer none, .int .u64 0, .int .u64 0, .pointer none]) w') := by
        intro w' hg'
        refine ⟨hg', hg'.cell q0 (by simp; omega), hg'.cell q1 (by simp; omega), hg'.cell q2 (by simp; omega), hg'.cell ((HW1.out.cell (p := ⟨rb, 21, none⟩) hrl).trans hR) (by simp; omega), ?_⟩
        have hsm : SM Ybad.prog 9 w' mb n sz (fun s => (g s).map stampOf) := (HM.out.below HW1.out HM.out.lt).same (hg'.block mb (Nat.lt_of_lt_of_le HM.out.lt HW1.out.size) (by have := HM.out.lt; simp; omega))
        have hl := hsm.look Ybad.underlying9 Ybad.underlying30 (z := .agg #[.int .u64 0, .int .i64 0, .pointer none, .int .u64 0, .int .u64 0, .pointer none]) (by go_simp) ⟨ts[k].toArray⟩ (by simpa [ByteArray.size] using hlenk)
        simp only [hgd, Option.map_some, Option.getD_some, stampOf] at hl
        exact hl
      have hagek' : age ts[k] = subF na ne (addW 0 d) (addE 0 0 d) := hagek
      clear hgd hagek
      have hr1 : w.heap.size + 1 + 1 < w1.heap.size := by omega
      have hk4 : k < 4096 := by omega
      have f46 := fun w' => field46 (.int .u64 (addW 0 d)) (.int .i64 (addE 0 0 d)) (.pointer none) (.int .u64 0) (.int .u64 0) (.pointer none) w'
      go_upto_block 1 with (fail)
      go_cut [12] from 22 to 40 (fun _ wx => Left1 w1 (w.heap.size + 1 + 1) (k + 1) (.string name) (itemCells age (ts.take (k + 1))) wx)
      case first =>
        go_wp2_with fail
        obtain ⟨_, s0, s1, s2, s3, s4⟩ := HS.out wr.drew (gb_drew hg)
        rw [World.cell?_drew] at s0 s1 s2 s3
        go_region_law
          ((first | (refine step_items rfl (.tmp 25) (.tmp 37) rfl rfl rfl hg2 c0' c1' cf' hown2 hr1 hk4 ?_; intro gg cap3 w3 hown3 hg3 c30 c3 cf3) | (refine step_sub rfl (.tmp 27) (.tmp 34) rfl rfl rfl h1 h1' aw0 aw1 ?_; intro w2 hb2; obtain ⟨hg2, c0', c1', cf', hown2, hl2⟩ := after_call hg hb2 c0 c1 cf hown)))
        all_goals go_wp2_with fail
        all_goals go_meet
        all_goals (rw [items_succ age ts hkn, hagek']; exact left1_of hr1 hown3 hg3 c30 c3 cf3)
      case rest =>
        obtain ⟨gg, cap3, hgc, cc0, cc1, ccf, hownc⟩ := hcut
        have HGC := hide hgc
        have HOC := hide hownc
        clear hgc hownc
        go_wp2_with fail
        go_roundg (ts.length - (k + 1))
        case measure => omega
        case rel => exact ⟨k + 1, _, by omega, by go_num, HGC.out, cc0, cc1, ccf, HOC.out, by simp⟩
    · obtain rfl : k = ts.length := by omega
      rw [List.take_length] at hown
      obtain ⟨ao2, cap2, rfl, _, _⟩ := own_form hown
      have HG := hide hg
      have HO := hide hown
      have e0 := hg.cell r0 (by simp)
      have e1 := hg.cell r1 (by simp)
      have ef0 : wr.frozen? ⟨w.heap.size + 1, 0, none⟩ = false := (World.frozen?_of_block (hg.block (w.heap.size + 1) (by omega) (by simp))).trans rf0
      have ef1 : wr.frozen? ⟨w.heap.size + 1, 1, none⟩ = false := (World.frozen?_of_block (hg.block (w.heap.size + 1) (by omega) (by simp))).trans rf1
      have hdec : decide ((0 : Int) < (ts.length : Int)) = decide (0 < ts.length) := decide_eq_decide.2 (by omega)
      have HD := hide hdec
      clear hg hown hdec
      go_wp2_with fail
      go_region
      go_wp2
      have hz := HG.out.size
      have HB : Below w.heap.size w wr := HW1.out.grown HG.out HW1.out.size (fun j hj => by cases hj; omega)
      have hne : some (w.heap.size + 1) ≠ (Value.slice ao2 ts.length cap2).ownBlock := row_ne_low HO.out (by omega)
      have g1 : ((wr.setCell ⟨w.heap.size + 1, 0, none⟩ (.string name)).setCell ⟨w.heap.size + 1, 1, none⟩ (.slice ao2 ts.length cap2)).cell? ⟨w.heap.size + 1, 1, none⟩ = some (.slice ao2 ts.length cap2) := World.cell?_setCell_same _ _ _ ((World.cell?_setCell_other wr ⟨w.heap.size + 1, 0, none⟩ ⟨w.heap.size + 1, 1, none⟩ _ (by simp)).trans e1)
      have g0 : ((wr.setCell ⟨w.heap.size + 1, 0, none⟩ (.string name)).setCell ⟨w.heap.size + 1, 1, none⟩ (.slice ao2 ts.length cap2)).cell? ⟨w.heap.size + 1, 0, none⟩ = some (.string name) := by
        rw [World.cell?_setCell_other _ _ _ _ (by simp)]
        exact World.cell?_setCell_same _ _ _ e0
      have hown' : ((wr.setCell ⟨w.heap.size + 1, 0, none⟩ (.string name)).setCell ⟨w.heap.size + 1, 1, none⟩ (.slice ao2 ts.length cap2)).ownsRow w1.heap.size 101 2 (.slice ao2 ts.length cap2) ts.length (itemCells age ts) :=
        HO.out.kept (row := some (w.heap.size + 1)) ⟨rfl, rfl, rfl, by simp, fun j _ hj => (Below.heap_setCell _ _ _ _ (fun e => hj (by rw [e]))).trans (Below.heap_setCell _ _ _ _ (fun e => hj (by rw [e])))⟩ (.inr (fun e => hne e.symm))
      (try simp only [Exit.inBlock, Exit.then])
      refine bodyPost_ret (v := .tuple #[.agg #[.string name, .slice ao2 ts.length cap2], .bool (decide (0 < ts.length))]) ?_ rfl ⟨_, ts, rfl, hown'.mono HW1.out.size, ?_, HF.out.1, HF.out.2.1, HF.out.2.2, hlen4, ((HB.setCell (p := ⟨w.heap.size + 1, 0, none⟩) (by simp) _).setCell (p := ⟨w.heap.size + 1, 1, none⟩) (by simp) _).drew⟩
      · rw [results_cell_tmp rfl]
        go_simp
      · rw [hnil]
        simp
end Go.Proofs.YbulkdlbcDoor
