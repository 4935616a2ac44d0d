/-
  THE WALK of the law 'LawS5605CWhole' (function 3).
-/
import Derived.Test.YbulkdlbcDoorWire
import Derived.Test.YbulkdlbcDoorPlain
import Derived.Test.YbulkdlbcDoorValid
import Derived.Deep.RegionHeld3
import Derived.Sort.Walk0
namespace Go.Proofs.YbulkdlbcDoor
open Go.RowKit Go.Maps Go.Sort

set_option maxRecDepth 100000 in
set_option maxHeartbeats 400000 in
theorem law_big (name : ByteArray) (p nw : Int) (a0 : Option Addr) (n c : Nat) (w : World) (hn : 4096 < n) :
    Calls Ybad.prog 3 #[.string name, .int .i64 p, .int .i64 nw, .slice a0 n c] w fun e w' => e = .returned (.bool true) ∧ Below w.heap.size w w' := by
  have h1 : (4096 : Int) < (n : Int) := by omega
  go_enter Ybad.func3, Ybad.ntmps3
  go_wp2
  go_ret
  exact ⟨rfl, Below.refl _ _⟩

theorem firsts_len (A : Nat → ByteArray) (L : Nat → Int) (k : Nat) : (firsts A L (k + 1)).length = if (gUpto A L k (A k).data.toList).isSome then (firsts A L k).length else (firsts A L k).length + 1 := by
  show (if (gUpto A L k (A k).data.toList).isSome then firsts A L k else firsts A L k ++ [(A k).data.toList]).length = _
  split
  · rfl
  · simp
/-- What stands all through the second half. -/
structure St (W : World) (N M B3 : Nat) (a0 : Option Addr) (n : Nat) (A : Nat → ByteArray) (L : Nat → Int) (p na ne : Int) : Prop where
  hs : Hs W a0 n A L
  z0 : W.cell? ⟨N, 0, none⟩ = some (.int .u64 0)
  z1 : W.cell? ⟨N, 1, none⟩ = some (.int .i64 0)
  z2 : W.cell? ⟨N, 2, none⟩ = some (.pointer none)
  n0 : W.cell? ⟨M, 0, none⟩ = some (.int .u64 na)
  n1 : W.cell? ⟨M, 1, none⟩ = some (.int .i64 ne)
  n2 : W.cell? ⟨M, 2, none⟩ = some (.pointer none)
  mp : W.cell? ⟨M + 1 + 1, 21, none⟩ = some (.map (some (M + 1)))
  nd : W.cell? ⟨B3, 26, none⟩ = some (.int .i64 p)
  sm : SM Ybad.prog 9 W (M + 1) n (firsts A L n).length (fun s => (gUpto A L n s).map stampOf)
  gz : W.cell? ⟨0, 0, none⟩ = some (.pointer none)
theorem St.below {W W' : World} {N M B3 : Nat} {a0 : Option Addr} {n : Nat} {A : Nat → ByteArray} {L : Nat → Int} {p na ne : Int} (h : St W N M B3 a0 n A L p na ne) (hB : Below W.heap.size W W') : St W' N M B3 a0 n A L p na ne := by
  have k : ∀ {q : Addr} {v : Value}, W.cell? q = some v → W'.cell? q = some v := fun {q v} hq => (hB.cell (World.block_lt_of_cell? W q hq)).trans hq
  refine ⟨fun i hi => ?_, k h.z0, k h.z1, k h.z2, k h.n0, k h.n1, k h.n2, k h.mp, k h.nd, h.sm.below hB h.sm.lt, k h.gz⟩
  obtain ⟨b, o, h0, hl, c0, c1⟩ := h.hs i hi
  exact ⟨b, o, h0, Nat.lt_of_lt_of_le hl hB.size, k c0, k c1⟩
theorem wrap3 (p : Int) : wrap64 (wrap64 (p + p) + p) = wrap64 (3 * p) := by
  unfold wrap64
  omega
def ageK (A : Nat → ByteArray) (L : Nat → Int) (n : Nat) (na ne : Int) (s : List UInt8) : Int := ageOf na ne ((gUpto A L n s).getD 0)
def ageV (A : Nat → ByteArray) (L : Nat → Int) (n : Nat) (na ne : Int) (s : List UInt8) : Value := .int .i64 (ageK A L n na ne s)
/-- The list that the law keeps, behind 'k' rounds. -/
structure Kept (A : Nat → ByteArray) (L : Nat → Int) (n : Nat) (p na ne : Int) (k : Nat) (ks : List (List UInt8)) : Prop where
  nd : ks.Nodup
  so : ks.Pairwise (fun x y => x ≤ y)
  me : ∀ s, s ∈ ks ↔ ∃ j, j < k ∧ lastB A n j = true ∧ (A j).data.toList = s ∧ oldB p na ne (L j) = false
  le : ks.length ≤ k
theorem kept_skip {A : Nat → ByteArray} {L : Nat → Int} {n : Nat} {p na ne : Int} {k : Nat} {ks : List (List UInt8)} (h : Kept A L n p na ne k ks) (hn : lastB A n k = true → oldB p na ne (L k) = true) : Kept A L n p na ne (k + 1) ks := by
  refine ⟨h.nd, h.so, fun s => ?_, by have := h.le; omega⟩
  rw [h.me s]
  constructor
  · rintro ⟨j, hj, a, b, c⟩
    exact ⟨j, by omega, a, b, c⟩
  · rintro ⟨j, hj, a, b, c⟩
    refine ⟨j, ?_, a, b, c⟩
    have : j ≠ k := by
      rintro rfl
      rw [hn a] at c
      cases c
    omega
/-- The new one, put in its place. -/
theorem kept_put {A : Nat → ByteArray} {L : Nat → Int} {n : Nat} {p na ne : Int} {k : Nat} {l1 l2 : List (List UInt8)} (h : Kept A L n p na ne k (l1 ++ l2)) (hk : k < n) (hl : lastB A n k = true) (ho : oldB p na ne (L k) = false)
    (h1 : ∀ y ∈ l1, y ≤ (A k).data.toList) (h2 : ∀ y ∈ l2, (A k).data.toList ≤ y) : Kept A L n p na ne (k + 1) (l1 ++ (A k).data.toList :: l2) := by
  have hno : (A k).data.toList ∉ l1 ++ l2 := fun hm => by
    obtain ⟨j, hj, a, b, _⟩ := (h.me _).1 hm
    exact fresh_last A hk ((mem_lasts A).2 ⟨j, hj, a, b⟩)
  refine ⟨?_, ?_, fun s => ?_, by have := h.le; simp at this ⊢; omega⟩
  · have hp : ((A k).data.toList :: (l1 ++ l2)).Nodup := List.nodup_cons.2 ⟨hno, h.nd⟩
    exact (List.perm_middle (l₁ := l1) (a := (A k).data.toList) (l₂ := l2)).nodup_iff.2 hp
  · have hs := List.pairwise_append.1 h.so
    refine List.pairwise_append.2 ⟨hs.1, List.pairwise_cons.2 ⟨h2, hs.2.1⟩, fun a ha b hb => ?_⟩
    rcases List.mem_cons.1 hb with rfl | hb
    · exact h1 a ha
    · exact hs.2.2 a ha b hb
  · rw [(List.perm_middle (l₁ := l1) (a := (A k).data.toList) (l₂ := l2)).mem_iff, List.mem_cons, h.me s]
    constructor
    · rintro (rfl | ⟨j, hj, a, b, c⟩)
      · exact ⟨k, by omega, hl, rfl, ho⟩
      · exact ⟨j, by omega, a, b, c⟩
    · rintro ⟨j, hj, a, b, c⟩
      by_cases e : j = k
      · subst e
        exact .inl b.symm
      · exact .inr ⟨j, by omega, a, b, c⟩
theorem le_all {l1 : List (List UInt8)} {y x : List UInt8} (hs : (l1 ++ [y]).Pairwise (fun x y => x ≤ y)) (hy : y ≤ x) : ∀ z ∈ l1 ++ [y], z ≤ x := by
  intro z hz
  rcases List.mem_append.1 hz with hz | hz
  · exact List.le_trans ((List.pairwise_append.1 hs).2.2 z hz y (by simp)) hy
  · simp at hz
    subst hz
    exact hy
theorem nil_or_snoc {α : Type} (l : List α) : l = [] ∨ ∃ l' b, l = l' ++ [b] := by
  rcases List.eq_nil_or_concat l with h | ⟨l', b, h⟩
  · exact .inl h
  · exact .inr ⟨l', b, by rw [h, List.concat_eq_append]⟩
theorem enc_bytes (a : ByteArray) : encStr a.data.toList = .string a := by
  obtain ⟨⟨l⟩⟩ := a
  rfl
theorem gtr_stop {a b : ByteArray} (h : a.data.toList ≤ b.data.toList) : (!(Op.bytesLess a.toList b.toList || a.toList == b.toList)) = false := by
  rw [ByteArray.toList_eq, ByteArray.toList_eq, Go.Proofs.bytesLess_eq]
  rcases List.le_iff_lt_or_eq.1 h with h | h
  · simp [h]
  · simp [h]
theorem gtr_go {a b : ByteArray} (h : ¬ a.data.toList ≤ b.data.toList) : (!(Op.bytesLess a.toList b.toList || a.toList == b.toList)) = true := by
  rw [ByteArray.toList_eq, ByteArray.toList_eq, Go.Proofs.bytesLess_eq]
  have h1 : ¬ a.data.toList < b.data.toList := fun e => h (List.le_of_lt e)
  have h2 : ¬ a.data = b.data := fun e => h (by rw [e]; exact List.le_refl _)
  simp [h1, h2]
theorem swap_at {α : Type} (l1 l2 : List α) (x y : α) : ((l1 ++ [y] ++ x :: l2).set (l1.length + 1) y).set l1.length x = l1 ++ x :: y :: l2 := by
  rw [List.append_assoc, List.set_append_right _ _ (by omega), List.set_append_right _ _ (by simp)]
  simp
theorem rows_apart {w : World} {B B' : Nat} {v v' : Value} {n n' : Nat} {xs xs' : List Value} (h : w.ownsRow B 9 1 v n xs) (h' : w.ownsRow B' 28 1 v' n' xs') : v'.ownBlock = none ∨ v'.ownBlock ≠ v.ownBlock := by
  rcases h.2 with ⟨rfl, _⟩ | ⟨g, cap, cur, rfl, _, hb, _⟩
  · cases v'.ownBlock <;> simp [Value.ownBlock]
  · rcases h'.2 with ⟨rfl, _⟩ | ⟨g', cap', cur', rfl, _, hb', _⟩
    · simp [Value.ownBlock]
    · refine .inr (fun e => ?_)
      have : g' = g := by simpa [Value.ownBlock] using e
      subst this
      rw [hb] at hb'
      simp at hb'
theorem rows_apart2 {w : World} {B B' : Nat} {v v' : Value} {n n' : Nat} {xs xs' : List Value} (h : w.ownsRow B 28 1 v n xs) (h' : w.ownsRow B' 9 1 v' n' xs') : v'.ownBlock = none ∨ v'.ownBlock ≠ v.ownBlock := by
  rcases h.2 with ⟨rfl, _⟩ | ⟨g, cap, cur, rfl, _, hb, _⟩
  · cases v'.ownBlock <;> simp [Value.ownBlock]
  · rcases h'.2 with ⟨rfl, _⟩ | ⟨g', cap', cur', rfl, _, hb', _⟩
    · simp [Value.ownBlock]
    · refine .inr (fun e => ?_)
      have : g' = g := by simpa [Value.ownBlock] using e
      subst this
      rw [hb] at hb'
      simp at hb'
theorem own_swap {α : Type} {w : World} {B g n cap : Nat} {e : TypeId} {l1 l2 : List α} {x y : α} (f : α → Value) (h : w.ownsRow B e 1 (.slice (some ⟨g, 0, none⟩) n cap) n ((l1 ++ [y] ++ x :: l2).map f)) :
    ((w.setCell ⟨g, l1.length + 1, none⟩ (f y)).setCell ⟨g, l1.length, none⟩ (f x)).ownsRow B e 1 (.slice (some ⟨g, 0, none⟩) n cap) n ((l1 ++ x :: y :: l2).map f) := by
  have h1 := ((h.stored (l1.length + 1) (f y)).1.stored l1.length (f x)).1
  rw [← List.map_set, ← List.map_set, swap_at] at h1
  exact h1
theorem own_other {w : World} {B g g' n cap : Nat} {e : TypeId} {xs : List Value} (h : w.ownsRow B e 1 (.slice (some ⟨g, 0, none⟩) n cap) n xs) (hne : g ≠ g') (j : Nat) (u : Value) : (w.setCell ⟨g', j, none⟩ u).ownsRow B e 1 (.slice (some ⟨g, 0, none⟩) n cap) n xs :=
  h.kept (row := some g') ⟨rfl, rfl, rfl, by simp, fun k _ hk => Below.heap_setCell _ _ _ _ (fun e => hk (by rw [e]))⟩ (.inr (by simpa [Value.ownBlock] using hne))
theorem kept_iff {A : Nat → ByteArray} {L : Nat → Int} {n : Nat} {p na ne : Int} {ks : List (List UInt8)} (h : Kept A L n p na ne n ks) (s : List UInt8) : (∃ d, gUpto A L n s = some d ∧ oldB p na ne d = false) ↔ s ∈ ks := by
  rw [h.me s]
  constructor
  · rintro ⟨d, hd, ho⟩
    obtain ⟨j, hj, hl, e⟩ := (mem_lasts A).1 ((mem_lasts_all A L).2 (by rw [hd]; rfl))
    refine ⟨j, hj, hl, e, ?_⟩
    have := gUpto_last A L hj hl
    rw [e, hd] at this
    cases this
    exact ho
  · rintro ⟨j, hj, hl, e, ho⟩
    exact ⟨L j, by rw [← e]; exact gUpto_last A L hj hl, ho⟩
theorem age_fact {A : Nat → ByteArray} {L : Nat → Int} {n : Nat} {na ne : Int} (hA : ∀ i, i < n → (A i).size ≤ maxLen) (s : List UInt8) (d : Int) (h : gUpto A L n s = some d) : ageK A L n na ne s = ageOf na ne d ∧ s.length ≤ maxLen := by
  refine ⟨by unfold ageK; rw [h]; rfl, ?_⟩
  obtain ⟨j, hj, e⟩ := (gUpto_some A L).1 (by rw [h]; rfl)
  rw [← e, Array.length_toList]
  exact hA j hj
theorem items_at (age : List UInt8 → Int) : ∀ (ts : List (List UInt8)) (m : Nat) (hm : m < ts.length), (itemCells age ts)[m * 2]? = some (encStr ts[m]) ∧ (itemCells age ts)[m * 2 + 1]? = some (.int .i64 (age ts[m]))
  | [], m, hm => by simp at hm
  | t :: ts, 0, _ => ⟨rfl, rfl⟩
  | t :: ts, m + 1, hm => by
    have h := items_at age ts m (by simpa using hm)
    have e : itemCells age (t :: ts) = encStr t :: .int .i64 (age t) :: itemCells age ts := rfl
    rw [e, show (m + 1) * 2 = m * 2 + 1 + 1 by omega]
    exact h
theorem zero46 (w : World) : (zeroValue 46).run Ybad.prog w = .ok (.agg #[.int .u64 0, .int .i64 0, .pointer none, .int .u64 0, .int .u64 0, .pointer none]) w := by kernel_rfl
theorem info28 : (Ybad.prog.info? 28).map (fun i => (i.zero, i.size, i.bytes)) = some (some (.int .i64 0), 1, 8) := by kernel_rfl

theorem node_built (p : Int) : ∃ C, Ybad.prog.built 90 [(6, .int .i64 p)] = some C ∧ C[26]? = some (.int .i64 p) := by
  have h : (Ybad.prog.built 90 [(6, .int .i64 p)]).bind (fun C => C[26]?) = some (.int .i64 p) := by kernel_rfl
  cases hb : Ybad.prog.built 90 [(6, .int .i64 p)] with
  | none =>
    rw [hb] at h
    cases h
  | some C =>
    rw [hb] at h
    exact ⟨C, rfl, h⟩
theorem wpList_build_at {P : Program} {ops : Array Oper} {rest : List Oper} {dst : Option Nat} {t ty : TypeId} {parts : Array (Nat × Operand)} {pos : String} {after : Array Edge} {a : Act} {w : World} {Q : Exit → Act → World → Prop} {C : Array Value} {l : List (Nat × Value)}
    (hb : P.built t l = some C) (hl : (parts.map fun (i, x) => (i, a.eval x)).toList = l) (h : wpList P ops Q rest (a.put dst (.agg C)) w) : wpList P ops Q (⟨dst, .build t parts, ty, pos, after, none⟩ :: rest) a w := by
  subst hl
  refine wpList_build rfl t parts rfl (by rw [hb]; rfl) ?_
  rw [hb]
  exact h
theorem bind_next (A : Nat → ByteArray) (L : Nat → Int) (k : Nat) : bind (fun s => (gUpto A L k s).map stampOf) (A k).data.toList (stampOf (L k)) = fun s => (gUpto A L (k + 1) s).map stampOf := by
  funext s
  rw [gUpto_succ]
  unfold bind
  split <;> simp

theorem after_add {Wh w2 : World} {mb k sz : Nat} {g : List UInt8 → Option Int} (hb2 : Below Wh.drew.heap.size Wh.drew w2) (hsm : SM Ybad.prog 9 Wh mb k sz (fun s => (g s).map stampOf)) (hk : k < 4096) (s : ByteArray) (hs : s.size ≤ maxLen) (d : Int) :
    Wh.grownBy w2 (some mb) ∧ ∃ W', (Instr.mapUpdate 30 (.map (some mb)) (.string s) (.agg #[.int .u64 (addW 0 d), .int .i64 (addE 0 0 d), .pointer none, .int .u64 0, .int .u64 0, .pointer none])).run Ybad.prog w2 = .ok () W' ∧
      SM Ybad.prog 9 W' mb (k + 1) (if (g s.data.toList).isSome then sz else sz + 1) (bind (fun s => (g s).map stampOf) s.data.toList (stampOf d)) ∧ Wh.grownBy W' (some mb) := by
  have hb : Below Wh.heap.size Wh w2 := ((Below.refl Wh.heap.size Wh).drew).trans hb2
  have h2 := hsm.below hb hsm.lt
  obtain ⟨W', hr, hsm', hg⟩ := h2.upd Ybad.underlying9 Ybad.underlying30 (by unfold maxLen; omega) s hs (stampOf d)
  refine ⟨Below.asGrown hb _, W', hr, ?_, (Below.asGrown hb _).trans hg⟩
  simpa using hsm'

set_option maxRecDepth 100000 in
set_option maxHeartbeats 8000000 in
theorem law_walk (name : ByteArray) (p nw : Int) (a0 : Option Addr) (n c : Nat) (A : Nat → ByteArray) (L : Nat → Int) (w : World) (hn : n ≤ 4096) (hnw : -9223372036854775808 ≤ nw ∧ nw ≤ 9223372036854775807)
    (hA : ∀ i, i < n → (A i).size ≤ maxLen) (hL : ∀ i, i < n → -9223372036854775808 ≤ L i ∧ L i ≤ 9223372036854775807) (hs : Hs w a0 n A L) (hgz : w.cell? ⟨0, 0, none⟩ = some (.pointer none)) :
    Calls Ybad.prog 3 #[.string name, .int .i64 p, .int .i64 nw, .slice a0 n c] w fun e w' => e = .returned (.bool true) ∧ Below w.heap.size w w' := by
  have h1 : ¬ (4096 : Int) < (n : Int) := by omega
  have hgl : 0 < w.heap.size := World.block_lt_of_cell? w ⟨0, 0, none⟩ hgz
  have hmm := @run_makeMap Ybad.prog
  have HS := hide hs
  have HA := hide hA
  have HL := hide hL
  clear hs hA hL
  go_enter Ybad.func3, Ybad.ntmps3
  go_wp2_with fail
  refine (add_any 0 0 nw _ (by omega) (by omega) hnw.1 hnw.2).mono ?_
  rintro e w1 ⟨rfl, hb1⟩
  have hbw1 : Below w.heap.size w w1 := ((Below.refl _ _).alloc (Nat.le_refl _) _).trans (hb1.mono (by simp))
  have hl1 : w.heap.size < w1.heap.size := by have := hb1.size; simp at this; omega
  have z0 : w1.cell? ⟨w.heap.size, 0, none⟩ = some (.int .u64 0) := (hb1.cell (p := ⟨w.heap.size, 0, none⟩) (by simp)).trans (by simp)
  have z1 : w1.cell? ⟨w.heap.size, 1, none⟩ = some (.int .i64 0) := (hb1.cell (p := ⟨w.heap.size, 1, none⟩) (by simp)).trans (by simp)
  have z2 : w1.cell? ⟨w.heap.size, 2, none⟩ = some (.pointer none) := (hb1.cell (p := ⟨w.heap.size, 2, none⟩) (by simp)).trans (by simp)
  clear hb1
  go_wp2_with fail
  generalize hW : (((w1.alloc (.cells #[.int .u64 (addW 0 nw), .int .i64 (addE 0 0 nw), .pointer none] 26)).alloc (.map #[] 0)).alloc (.cells #[.int .u8 0, .int .u8 0, .int .u8 0, .int .u8 0, .int .u8 0, .int .u8 0, .int .u8 0, .int .u8 0, .int .u8 0, .int .u8 0, .int .u8 0, .int .u8 0, .int .u8 0, .int .u8 0, .int .u8 0, .int .u8 0, .int .u8 0, .int .u8 0, .int .u8 0, .int .u8 0, .int .u8 0, .map (some (w1.heap.size + 1))] 35)) = W2
  have hb12 : Below w1.heap.size w1 W2 := by
    rw [← hW]
    iterate 3 refine Below.alloc ?_ (by simp; try omega) _
    exact Below.refl _ _
  have hsz2 : W2.heap.size = w1.heap.size + 1 + 1 + 1 := by rw [← hW]; simp only [World.size_alloc]
  have hh0 : W2.heap[w1.heap.size]? = some (.cells #[.int .u64 (addW 0 nw), .int .i64 (addE 0 0 nw), .pointer none] 26) := by
    rw [← hW]
    exact ((Below.heap_alloc _ _ _ (by simp only [World.size_alloc]; omega)).trans (Below.heap_alloc _ _ _ (by simp only [World.size_alloc]; omega))).trans (heap_alloc_new _ _)
  have hh2 : W2.cell? ⟨w1.heap.size + 1 + 1, 21, none⟩ = some (.map (some (w1.heap.size + 1))) := by
    rw [← hW]
    exact new_cell _ (by simp only [World.size_alloc]) rfl
  have hsm0 : SM Ybad.prog 9 W2 (w1.heap.size + 1) 0 0 (fun _ => none) := by
    rw [← hW]
    have h := SM.made (w1.alloc (.cells #[.int .u64 (addW 0 nw), .int .i64 (addE 0 0 nw), .pointer none] 26)) Ybad.prog 9
    simp only [World.size_alloc] at h
    exact h.below ((Below.refl _ _).alloc (Nat.le_refl _) _) (by simp only [World.size_alloc]; omega)
  clear hW
  have n0 : W2.cell? ⟨w1.heap.size, 0, none⟩ = some (.int .u64 (addW 0 nw)) := by simp [World.cell?, hh0]
  have n1 : W2.cell? ⟨w1.heap.size, 1, none⟩ = some (.int .i64 (addE 0 0 nw)) := by simp [World.cell?, hh0]
  have n2 : W2.cell? ⟨w1.heap.size, 2, none⟩ = some (.pointer none) := by simp [World.cell?, hh0]
  replace z0 := (hb12.cell (p := ⟨w.heap.size, 0, none⟩) hl1).trans z0
  replace z1 := (hb12.cell (p := ⟨w.heap.size, 1, none⟩) hl1).trans z1
  replace z2 := (hb12.cell (p := ⟨w.heap.size, 2, none⟩) hl1).trans z2
  have BW2 := hide (hbw1.trans (hb12.mono (by omega)))
  have SM0 := hide hsm0
  clear hb12 hbw1 hh0 hsm0 hmm
  have hab : Hid (∀ b o, a0 = some ⟨b, o, none⟩ → 0 < n → b < w.heap.size) := by
    intro b o h0 h
    obtain ⟨b', o', h0', hl, _⟩ := HS.out 0 h
    rw [h0] at h0'
    cases h0'
    exact hl
  go_loopg [44] n (fun gk j wr => ∃ k : Nat, gk + k = n ∧ j = .int .i64 k ∧ W2.grownBy wr (some (w1.heap.size + 1)) ∧ SM Ybad.prog 9 wr (w1.heap.size + 1) k (firsts A L k).length (fun s => (gUpto A L k s).map stampOf))
  case atStart => exact ⟨0, by omega, rfl, World.grownBy.refl _ _, SM0.out⟩
  case round =>
    obtain ⟨k, hk, rfl, hg, hsm⟩ := hrel
    have HG := hide hg
    have HSM := hide hsm
    clear hg hsm
    by_cases hkn : k < n
    · obtain ⟨b, o, rfl, hbl, c0, c1⟩ := HS.out k hkn
      have hkn' : (k : Int) < (n : Int) := by omega
      have d0 : wr.cell? ⟨b, o + k * 2, none⟩ = some (.string (A k)) := HG.out.cell ((BW2.out.cell (p := ⟨b, o + k * 2, none⟩) hbl).trans c0) (by simp; omega)
      have d1 : wr.cell? ⟨b, o + k * 2 + 1, none⟩ = some (.int .i64 (L k)) := HG.out.cell ((BW2.out.cell (p := ⟨b, o + k * 2 + 1, none⟩) hbl).trans c1) (by simp; omega)
      clear c0 c1
      obtain ⟨lk0, lk1⟩ := HL.out k hkn
      have hAk := HA.out k hkn
      have hzr := HG.out.size
      go_wp2_with fail
      have HK : Hid (∀ w', (wr.alloc (.cells #[.string (A k), .int .i64 (L k)] 37)).grownBy w' (some (w1.heap.size + 1)) → (wr.alloc (.cells #[.string (A k), .int .i64 (L k)] 37)).grownBy w' (some (w1.heap.size + 1)) ∧ w'.cell? ⟨w1.heap.size + 1 + 1, 21, none⟩ = some (.map (some (w1.heap.size + 1))) ∧
          w'.cell? ⟨wr.heap.size, 0, none⟩ = some (.string (A k)) ∧ w'.cell? ⟨wr.heap.size, 1, none⟩ = some (.int .i64 (L k)) ∧ w'.cell? ⟨w.heap.size, 0, none⟩ = some (.int .u64 0) ∧ w'.cell? ⟨w.heap.size, 1, none⟩ = some (.int .i64 0) ∧ w'.cell? ⟨w.heap.size, 2, none⟩ = some (.pointer none)) := by
        intro w' h
        have h' := (gb_alloc HG.out (.cells #[.string (A k), .int .i64 (L k)] 37)).trans h
        exact ⟨h, h'.cell hh2 (by simp), h.cell (new_cell _ rfl rfl) (by simp; omega), h.cell (new_cell _ rfl rfl) (by simp; omega), h'.cell z0 (by simp; omega), h'.cell z1 (by simp; omega), h'.cell z2 (by simp; omega)⟩
      have HSA := hide (HSM.out.below ((Below.refl _ wr).alloc (Nat.le_refl _) (.cells #[.string (A k), .int .i64 (L k)] 37)) HSM.out.lt)
      go_region_held3 (fun w' => (wr.alloc (.cells #[.string (A k), .int .i64 (L k)] 37)).grownBy w' (some (w1.heap.size + 1)) ∧ w'.cell? ⟨w1.heap.size + 1 + 1, 21, none⟩ = some (.map (some (w1.heap.size + 1))) ∧
          w'.cell? ⟨wr.heap.size, 0, none⟩ = some (.string (A k)) ∧ w'.cell? ⟨wr.heap.size, 1, none⟩ = some (.int .i64 (L k)) ∧ w'.cell? ⟨w.heap.size, 0, none⟩ = some (.int .u64 0) ∧ w'.cell? ⟨w.heap.size, 1, none⟩ = some (.int .i64 0) ∧ w'.cell? ⟨w.heap.size, 2, none⟩ = some (.pointer none))
        ((refine HK.out _ ?_; first | assumption | exact gb_drew (World.grownBy.refl _ _)))
        ((go_at_call 4; refine (add_any 0 0 (L k) _ (by omega) (by omega) lk0 lk1).mono ?_; rintro e w2 ⟨rfl, hb2⟩; obtain ⟨hg2, W', hrun, hsm', hg'⟩ := after_add hb2 HSA.out (by omega) (A k) hAk (L k)))
      rw [bind_next, ← firsts_len] at hsm'
      have HSM' := hide hsm'
      have HG' := hide ((gb_alloc HG.out _).trans hg')
      clear hsm' hg' hrun hg2 hb2
      go_wp2_with fail
      go_roundg (n - (k + 1))
      case measure => omega
      case rel => exact ⟨k + 1, by omega, by go_num, HG'.out, HSM'.out⟩
    · obtain rfl : k = n := by omega
      obtain ⟨C, hbl, hc26⟩ := node_built p
      have HBL := hide hbl
      clear hbl
      go_wp2_with (refine wpList_build_at (t := 90) (l := _) HBL.out ?hl ?_; case hl => simp [Act.eval])
      have hzr := HG.out.size
      have hst : St (wr.alloc (.cells C 90)) w.heap.size w1.heap.size wr.heap.size a0 k A L p (addW 0 nw) (addE 0 0 nw) := by
        have hg3 := gb_alloc HG.out (.cells C 90)
        refine ⟨fun i hi => ?_, hg3.cell z0 (by simp; omega), hg3.cell z1 (by simp; omega), hg3.cell z2 (by simp; omega), hg3.cell n0 (by simp), hg3.cell n1 (by simp), hg3.cell n2 (by simp), hg3.cell hh2 (by simp), new_cell _ rfl hc26, HSM.out.below ((Below.refl _ _).alloc (Nat.le_refl _) _) HSM.out.lt, hg3.cell ((BW2.out.cell (p := ⟨0, 0, none⟩) hgl).trans hgz) (by simp)⟩
        obtain ⟨b, o, h0, hl, c0, c1⟩ := HS.out i hi
        exact ⟨b, o, h0, by simp; omega, hg3.cell ((BW2.out.cell (p := ⟨b, o + i * 2, none⟩) hl).trans c0) (by simp; omega), hg3.cell ((BW2.out.cell (p := ⟨b, o + i * 2 + 1, none⟩) hl).trans c1) (by simp; omega)⟩
      have hbw3 : Below w.heap.size w (wr.alloc (.cells C 90)) := (BW2.out.grown HG.out BW2.out.size (fun j hj => by cases hj; omega)).alloc (by omega) _
      have ST := hide hst
      have BW3 := hide hbw3
      rw [wrap3]
      clear hst hbw3 HSM HG HS SM0 BW2 hgz hgl z0 z1 z2 n0 n1 n2 hh2 hc26 HBL hsz2 hab
      generalize hW3 : wr.alloc (.cells C 90) = W3 at *
      generalize wr.heap.size = B3 at *
      clear hW3 hzr
      obtain ⟨aw0, aw1⟩ := addW_bounds (a := 0) (d := nw) (by omega) (by omega)
      generalize addW 0 nw = na at *
      generalize addE 0 0 nw = ne at *
      generalize w1.heap.size = M at *
      generalize hNN : w.heap.size = N at *
      go_loopg [17, 18, 19, 70] k (fun gk v17 v18 dd j wr => ∃ (i : Nat) (ks : List (List UInt8)), gk + i = k ∧ j = .int .i64 i ∧ dd = .int .i64 (lasts A k i).length ∧ Below W3.heap.size W3 wr ∧ wr.ownsRow W3.heap.size 9 1 v17 ks.length (ks.map encStr) ∧ wr.ownsRow W3.heap.size 28 1 v18 ks.length (ks.map (ageV A L k na ne)) ∧
        Hid (Kept A L k p na ne i ks))
      case atStart => exact ⟨0, [], by omega, rfl, rfl, Below.refl _ _, World.ownsRow_nil _ _ _ _, World.ownsRow_nil _ _ _ _, ⟨by simp, by simp, fun s => by simp, by simp⟩⟩
      case round =>
        obtain ⟨i, ks, hk, rfl, rfl, hb, ho9, ho28, HK⟩ := hrel
        by_cases hin : i < k
        · have hin' : (i : Int) < (k : Int) := by omega
          have HB := hide hb
          have HO9 := hide ho9
          have HO28 := hide ho28
          have STR := hide (ST.out.below hb)
          clear hb ho9 ho28
          go_wp2_with fail
          refine (last_any a0 k c A L i wr hin hn STR.out.hs).mono ?_
          rintro e w' ⟨rfl, q, hw⟩
          rw [hw]
          clear hw w'
          cases hl : lastB A k i with
          | false =>
            have HKN : Hid (Kept A L k p na ne (i + 1) ks) := kept_skip HK.out (fun h => by rw [hl] at h; cases h)
            have hll : (lasts A k (i + 1)).length = (lasts A k i).length := by
              show (if lastB A k i then lasts A k i ++ [(A i).data.toList] else lasts A k i).length = _
              rw [hl]
              rfl
            have HLL := hide hll
            clear hll hl
            go_wp2_with fail
            go_roundg (k - (i + 1))
            case measure => omega
            case rel => exact ⟨i + 1, ks, by omega, by go_num, by rw [HLL.out], below_drewN HB.out _, HO9.out, HO28.out, HKN⟩
          | true =>
            have hll : (lasts A k (i + 1)).length = (lasts A k i).length + 1 := by
              show (if lastB A k i then lasts A k i ++ [(A i).data.toList] else lasts A k i).length = _
              rw [hl]
              simp
            have HLL := hide hll
            have hlle := len_lasts_le A k i
            have HG : Hid (gUpto A L k (A i).data.toList = some (L i)) := gUpto_last A L hin hl
            have HLB := hide hl
            clear hll hl
            obtain ⟨l0, l1⟩ := HL.out i hin
            obtain ⟨b, o, rfl, hbl, c0, c1⟩ := STR.out.hs i hin
            obtain ⟨bw0, bw1⟩ := addW_bounds (a := 0) (d := L i) (by omega) (by omega)
            go_wp2_with fail
            have x0 := fun x : Aft (wr.drewN q) => x.cell (p := ⟨N, 0, none⟩) STR.out.z0
            have x1 := fun x : Aft (wr.drewN q) => x.cell (p := ⟨N, 1, none⟩) STR.out.z1
            have x2 := fun x : Aft (wr.drewN q) => x.cell (p := ⟨N, 2, none⟩) STR.out.z2
            have y0 := fun x : Aft (wr.drewN q) => x.cell (p := ⟨M, 0, none⟩) STR.out.n0
            have y1 := fun x : Aft (wr.drewN q) => x.cell (p := ⟨M, 1, none⟩) STR.out.n1
            have y2 := fun x : Aft (wr.drewN q) => x.cell (p := ⟨M, 2, none⟩) STR.out.n2
            have v1 := fun x : Aft (wr.drewN q) => x.cell (p := ⟨b, o + i * 2 + 1, none⟩) c1
            refine wp_region_aft (by kernel_rfl) (by kernel_rfl) ?_
            repeat (go_big_quiet_step ((first | (go_at_call 4; exact aft_of (add_any 0 0 (L i) _ (by omega) (by omega) l0 l1)) | (go_at_call 6; exact aft_of (sub_any na ne (addW 0 (L i)) (addE 0 0 (L i)) _ aw0 aw1 bw0 bw1)))))
            refine wpQuiet_nil ?_
            rintro w' ⟨x, rfl⟩
            clear x0 x1 x2 y0 y1 y2 v1
            have hb4 : Below wr.heap.size wr x.u := (below_drewN (Below.refl wr.heap.size wr) q).trans x.h
            generalize x.u = w4 at hb4 ⊢
            clear x
            have ho9 := HO9.out.kept (Below.asGrown hb4 none) (by cases u17.ownBlock <;> simp)
            have ho28 := HO28.out.kept (Below.asGrown hb4 none) (by cases u18.ownBlock <;> simp)
            have c04 := (hb4.cell (p := ⟨b, o + i * 2, none⟩) hbl).trans c0
            have hbl4 : b < w4.heap.size := Nat.lt_of_lt_of_le hbl hb4.size
            have HB4 := hide (HB.out.trans (hb4.mono HB.out.size))
            have hz4 := HB4.out.size
            have HO9' := hide ho9
            have HO28' := hide ho28
            clear hb4 ho9 ho28 c0 c1
            cases ho : oldB p na ne (L i) with
            | true =>
              have ho' : decide (wrap64 (3 * p) < subF na ne (addW 0 (L i)) (addE 0 0 (L i))) = true := ho
              have HKN : Hid (Kept A L k p na ne (i + 1) ks) := kept_skip HK.out (fun _ => ho)
              clear ho
              go_wp2_with fail
              go_roundg (k - (i + 1))
              case measure => omega
              case rel => exact ⟨i + 1, ks, by omega, by go_num, by rw [HLL.out]; simp, HB4.out, HO9'.out, HO28'.out, HKN⟩
            | false =>
              have ho' : decide (wrap64 (3 * p) < subF na ne (addW 0 (L i)) (addE 0 0 (L i))) = false := ho
              have HOLD := hide ho
              clear ho
              have hkl : ks.length ≤ 4095 := by
                have := HK.out.le
                omega
              obtain ⟨i0, hi, hz0, hz1, hz2⟩ := info_parts info9
              obtain ⟨j0, hj, hy0, hy1, hy2⟩ := info_parts info28
              go_wp2_with (first
                | (at_builtin; refine wpList_append_own _ rfl _ _ 91 rfl W3.heap.size 9 i0 (.string ⟨#[]⟩) 1 16 Ybad.underlying91 hi hz0 hz1 hz2 rfl (by decide) _ _ _ rfl (HO9'.out.alloc _) ⟨w4.heap.size, 0, none⟩ 1 1 [.string (A i)] rfl rfl (cell_one_new _ _ _) (by simp [Value.oneCell']) (by unfold maxLen; omega) (by omega) (by simp; omega) ?_; intro v5 w5 hown5 hg5 hnil5; have ho28_5 := hide ((HO28'.out.alloc (.cells #[.string (A i)] 9)).kept hg5 (rows_apart (HO9'.out.alloc (.cells #[.string (A i)] 9)) (HO28'.out.alloc (.cells #[.string (A i)] 9)))); obtain ⟨g1, cap1, rfl, hg1, hg1l⟩ := hown5.form (by omega); have HO5 := hide hown5; have hz5 := hg5.size; have HG5 := hide hg5; clear hown5 hg5 hnil5; go_frame)
                | (at_builtin; refine wpList_append_own _ rfl _ _ 92 rfl W3.heap.size 28 j0 (.int .i64 0) 1 8 Ybad.underlying92 hj hy0 hy1 hy2 rfl (by decide) _ _ _ rfl (ho28_5.out.alloc _) ⟨w5.heap.size, 0, none⟩ 1 1 [.int .i64 (subF na ne (addW 0 (L i)) (addE 0 0 (L i)))] rfl rfl (cell_one_new _ _ _) (by simp [Value.oneCell']) (by unfold maxLen; omega) (by omega) (by simp at hz5 ⊢; omega) ?_; intro v6 w6 hown6 hg6 hnil6; have HO5' := hide ((HO5.out.alloc (.cells #[.int .i64 (subF na ne (addW 0 (L i)) (addE 0 0 (L i)))] 28)).kept hg6 (rows_apart2 (ho28_5.out.alloc (.cells #[.int .i64 (subF na ne (addW 0 (L i)) (addE 0 0 (L i)))] 28)) (HO5.out.alloc (.cells #[.int .i64 (subF na ne (addW 0 (L i)) (addE 0 0 (L i)))] 28)))); obtain ⟨g2, cap2, rfl, hg2, hg2l⟩ := hown6.form (by omega); have HO6 := hide hown6; have HG6 := hide hg6; clear hown6 hg6 hnil6; go_frame))
              have hxe : .string (A i) = encStr (A i).data.toList := (enc_bytes _).symm
              have hxa : .int .i64 (subF na ne (addW 0 (L i)) (addE 0 0 (L i))) = ageV A L k na ne (A i).data.toList := by
                unfold ageV ageK
                rw [HG.out]
                rfl
              have hB6 : Below W3.heap.size W3 w6 := ((((HB4.out).alloc hz4 _).grown HG5.out (by simp; omega) (fun j hj => (HO9'.out.lt j hj).1)).alloc (by simp at hz5; omega) _).grown HG6.out (by simp at hz5 ⊢; omega) (fun j hj => (ho28_5.out.lt j hj).1)
              have r9 : w6.ownsRow W3.heap.size 9 1 (.slice (some ⟨g1, 0, none⟩) (ks.length + 1) cap1) (ks.length + 1) ((ks ++ (A i).data.toList :: []).map encStr) := by
                have h := HO5'.out
                rw [hxe] at h
                simpa using h
              have r28 : w6.ownsRow W3.heap.size 28 1 (.slice (some ⟨g2, 0, none⟩) (ks.length + 1) cap2) (ks.length + 1) ((ks ++ (A i).data.toList :: []).map (ageV A L k na ne)) := by
                have h := HO6.out
                rw [hxa] at h
                simpa using h
              have R9 := hide r9
              have R28 := hide r28
              have HB6 := hide hB6
              clear hxe hxa r9 r28 hB6 HO5' HO6 HG5 HG6 HO5 ho28_5 HO9' HO28' HB4 hz5 hz4 hg1l hg2l c04 hbl4
              go_loopg [22] ks.length (fun gj j wq => ∃ (l1 l2 : List (List UInt8)), gj = l1.length ∧ j = .int .i64 l1.length ∧ ks = l1 ++ l2 ∧ Hid (∀ y ∈ l2, (A i).data.toList ≤ y) ∧ Hid (Below W3.heap.size W3 wq) ∧ Hid (wq.ownsRow W3.heap.size 9 1 (.slice (some ⟨g1, 0, none⟩) (ks.length + 1) cap1) (ks.length + 1) ((l1 ++ (A i).data.toList :: l2).map encStr)) ∧
                Hid (wq.ownsRow W3.heap.size 28 1 (.slice (some ⟨g2, 0, none⟩) (ks.length + 1) cap2) (ks.length + 1) ((l1 ++ (A i).data.toList :: l2).map (ageV A L k na ne))))
              case atStart => exact ⟨ks, [], rfl, rfl, by simp, fun y hy => by simp at hy, HB6, R9, R28⟩
              case round =>
                obtain ⟨l1, l2, rfl, rfl, hks, HL2, HBQ, Q9, Q28⟩ := hrel
                rcases nil_or_snoc l1 with rfl | ⟨L1, y, rfl⟩
                · have HKN : Hid (Kept A L k p na ne (i + 1) ([] ++ (A i).data.toList :: l2)) := kept_put (l1 := []) (l2 := l2) (hks ▸ HK.out) hin HLB.out HOLD.out (fun y hy => by cases hy) HL2.out
                  have hkl2 : ks.length + 1 = ([] ++ (A i).data.toList :: l2 : List (List UInt8)).length := by rw [hks]; simp
                  have HKL := hide hkl2
                  clear hkl2 hks
                  go_wp2_with fail
                  go_quiet (fail)
                  go_wp2_with fail
                  go_roundg (k - (i + 1))
                  case measure => omega
                  case rel => exact ⟨i + 1, _, by omega, by go_num, by rw [HLL.out]; simp, below_drewN HBQ.out _, by rw [← HKL.out]; exact Q9.out, by rw [← HKL.out]; exact Q28.out, HKN⟩
                · obtain ⟨sy, hsy, rfl⟩ : ∃ sy : ByteArray, encStr y = .string sy ∧ sy.data.toList = y := ⟨⟨y.toArray⟩, rfl, rfl⟩
                  have hlen : (L1 ++ [sy.data.toList]).length = L1.length + 1 := by simp
                  have hkl2 : ks.length = L1.length + 1 + l2.length := by rw [hks]; simp; omega
                  have cy : wr.cell? ⟨g1, L1.length, none⟩ = some (.string sy) := by
                    rw [Q9.out.cellAt _ (by omega), ← hsy]
                    simp
                  have cx : wr.cell? ⟨g1, L1.length + 1, none⟩ = some (.string (A i)) := by
                    rw [Q9.out.cellAt _ (by omega), ← enc_bytes]
                    simp
                  have ay : wr.cell? ⟨g2, L1.length, none⟩ = some (.int .i64 (ageK A L k na ne sy.data.toList)) := by
                    rw [Q28.out.cellAt _ (by omega)]
                    simp [ageV]
                  have ax : wr.cell? ⟨g2, L1.length + 1, none⟩ = some (.int .i64 (ageK A L k na ne (A i).data.toList)) := by
                    rw [Q28.out.cellAt _ (by omega)]
                    simp [ageV]
                  have fy := Q9.out.frozenAt L1.length
                  have fx := Q9.out.frozenAt (L1.length + 1)
                  have gy := Q28.out.frozenAt L1.length
                  have gx := Q28.out.frozenAt (L1.length + 1)
                  have hne12 : g1 ≠ g2 := fun e => by
                    rcases rows_apart Q9.out Q28.out with h | h
                    · simp [Value.ownBlock] at h
                    · exact h (by simp [Value.ownBlock, e])
                  have hi1 : ((L1.length : Int)) < ((ks.length + 1 : Nat) : Int) := by omega
                  have hi2 : ((L1.length : Int) + 1) < ((ks.length + 1 : Nat) : Int) := by omega
                  rw [hlen]
                  have HKS := hide hks
                  have HKL := hide hkl2
                  clear hlen hks hkl2
                  by_cases hle : sy.data.toList ≤ (A i).data.toList
                  · have hcmp := gtr_stop hle
                    have HKN : Hid (Kept A L k p na ne (i + 1) ((L1 ++ [sy.data.toList]) ++ (A i).data.toList :: l2)) := kept_put (HKS.out ▸ HK.out) hin HLB.out HOLD.out (le_all (List.pairwise_append.1 (HKS.out ▸ HK.out.so)).1 hle) HL2.out
                    have hkl3 : ks.length + 1 = ((L1 ++ [sy.data.toList]) ++ (A i).data.toList :: l2).length := by rw [HKL.out]; simp; omega
                    have HKL3 := hide hkl3
                    clear hkl3 hle
                    go_wp2_with fail
                    go_quiet (fail)
                    go_wp2_with fail
                    go_roundg (k - (i + 1))
                    case measure => omega
                    case rel => exact ⟨i + 1, _, by omega, by go_num, by rw [HLL.out]; simp, below_drewN HBQ.out _, by rw [← HKL3.out]; exact Q9.out, by rw [← HKL3.out]; exact Q28.out, HKN⟩
                  · have hcmp := gtr_go hle
                    have HLE := hide ((List.le_total (A i).data.toList sy.data.toList).resolve_right hle)
                    have HSY := hide hsy
                    clear hle hsy
                    go_wp2_with fail
                    go_quiet (fail)
                    go_wp2_with fail
                    go_roundg L1.length
                    case measure => simp
                    case rel =>
                      refine ⟨L1, sy.data.toList :: l2, rfl, by go_num, by rw [HKS.out]; simp, fun z hz => ?_, ?_, ?_, ?_⟩
                      · rcases List.mem_cons.1 hz with rfl | hz
                        · exact HLE.out
                        · exact HL2.out z hz
                      · exact ((((below_drewN HBQ.out nq).setCell (p := ⟨g1, L1.length + 1, none⟩) hg1 _).setCell (p := ⟨g1, L1.length, none⟩) hg1 _).setCell (p := ⟨g2, L1.length + 1, none⟩) hg2 _).setCell (p := ⟨g2, L1.length, none⟩) hg2 _
                      · have h := own_swap (w := wr.drewN nq) (l1 := L1) (l2 := l2) (x := (A i).data.toList) (y := sy.data.toList) encStr Q9.out
                        rw [enc_bytes, enc_bytes] at h
                        exact own_other (own_other h hne12 _ _) hne12 _ _
                      · exact own_swap (l1 := L1) (l2 := l2) (x := (A i).data.toList) (y := sy.data.toList) (ageV A L k na ne) (own_other (own_other (w := wr.drewN nq) Q28.out hne12.symm _ _) hne12.symm _ _)
        · obtain rfl : i = k := by omega
          have STR := hide (ST.out.below hb)
          have z0 := STR.out.n0
          have z1 := STR.out.n1
          have z2 := STR.out.n2
          obtain ⟨ao1, cap1, rfl, _, hk9⟩ := own_form ho9
          obtain ⟨ao2, cap2, rfl, _, hk28⟩ := own_form ho28
          have HK9 := hide hk9
          have HK28 := hide hk28
          have HB := hide hb
          clear hb ho9 ho28 hk9 hk28
          go_wp2_with fail
          refine (wire_any B3 (M + 1 + 1) (M + 1) i (firsts A L i).length p na ne name (gUpto A L i) wr aw0 aw1 STR.out.nd STR.out.mp STR.out.sm hn (ageK A L i na ne) (age_fact HA.out)).mono ?_
          rintro e w5 ⟨v, ts, rfl, hownv, hnilv, hnd, hpw, hmem, hlen, hb5⟩
          obtain rfl : ts = ks := sorted_eq hnd HK.out.nd hpw HK.out.so (fun s => (hmem s).trans (kept_iff HK.out s))
          obtain ⟨ao3, cap3, rfl, _, hk101⟩ := own_form hownv
          have ST5 := hide (STR.out.below hb5)
          have HB5 := hide (HB.out.trans (hb5.mono HB.out.size))
          have HK101 := hide hk101
          have HX9 : Hid (∀ m, (hm : m < ts.length) → ∃ gb, ao1 = some ⟨gb, 0, none⟩ ∧ gb < w5.heap.size ∧ w5.cell? ⟨gb, m, none⟩ = some (encStr ts[m])) := by
            intro m hm
            obtain ⟨gb, h0, _, hl, hc⟩ := HK9.out m (by omega)
            refine ⟨gb, h0, Nat.lt_of_lt_of_le hl hb5.size, (hb5.cell (p := ⟨gb, m, none⟩) hl).trans (hc.trans ?_)⟩
            simp [List.getElem?_eq_getElem hm]
          have HX28 : Hid (∀ m, (hm : m < ts.length) → ∃ gb, ao2 = some ⟨gb, 0, none⟩ ∧ gb < w5.heap.size ∧ w5.cell? ⟨gb, m, none⟩ = some (.int .i64 (ageK A L i na ne ts[m]))) := by
            intro m hm
            obtain ⟨gb, h0, _, hl, hc⟩ := HK28.out m (by omega)
            refine ⟨gb, h0, Nat.lt_of_lt_of_le hl hb5.size, (hb5.cell (p := ⟨gb, m, none⟩) hl).trans (hc.trans ?_)⟩
            simp [List.getElem?_eq_getElem hm, ageV]
          have HX101 : Hid (∀ m, (hm : m < ts.length) → ∃ gb, ao3 = some ⟨gb, 0, none⟩ ∧ gb < w5.heap.size ∧ w5.cell? ⟨gb, m * 2, none⟩ = some (encStr ts[m]) ∧ w5.cell? ⟨gb, m * 2 + 1, none⟩ = some (.int .i64 (ageK A L i na ne ts[m]))) := by
            intro m hm
            obtain ⟨gb, h0, _, hl, hc⟩ := HK101.out (m * 2) (by omega)
            obtain ⟨gb', h0', _, _, hc'⟩ := HK101.out (m * 2 + 1) (by omega)
            rw [h0] at h0'
            cases h0'
            have hi := items_at (ageK A L i na ne) ts m hm
            exact ⟨gb, h0, hl, hc.trans hi.1, hc'.trans hi.2⟩
          have hdec : decide ((0 : Int) < (ts.length : Int)) = decide (0 < ts.length) := decide_eq_decide.2 (by omega)
          clear hownv hnd hpw hmem hb5 hk101 HK9 HK28 HK101 STR HB z0 z1 z2
          have hw5 : w5.heap.size < (w5.alloc (.cells #[.string name, .slice ao3 ts.length cap3] 97)).heap.size := by simp
          go_upto_if 178 with (fail)
          go_cut [27] from 179 to 217 (fun _ wx => ∃ q : Nat, wx = (w5.alloc (.cells #[.string name, .slice ao3 ts.length cap3] 97)).drewN q)
          case first =>
            by_cases hts : ts = []
            · have hv := hnilv.2 hts
              subst hts
              simp only [Value.slice.injEq] at hv
              obtain ⟨rfl, _, rfl⟩ := hv
              clear hnilv
              go_wp2_with fail
              go_meet
              case rel => exact ⟨0, rfl⟩
            · have hpos : (0 : Int) < (ts.length : Int) := by
                have := List.length_pos_iff.2 hts
                omega
              have hne0 : ((ts.length : Int) == 0) = false := by simp; exact hts
              clear hnilv hts
              go_wp2_with fail
              go_loopg [190] ts.length (fun gk j wr => ∃ (m q : Nat), gk + m = ts.length ∧ j = .int .i64 m ∧ wr = (w5.alloc (.cells #[.string name, .slice ao3 ts.length cap3] 97)).drewN q)
              case atStart => exact ⟨0, 0, by omega, rfl, rfl⟩
              case round =>
                obtain ⟨m, q, hm, rfl, hwr⟩ := hrel
                rw [hwr]
                clear hwr
                by_cases hmt : m < ts.length
                · have hmt' : (m : Int) < (ts.length : Int) := by omega
                  obtain ⟨gb1, rfl, hl1, k1⟩ := HX9.out m hmt
                  obtain ⟨gb2, rfl, hl2, k2⟩ := HX28.out m hmt
                  obtain ⟨gb3, rfl, hl3, k3, k4⟩ := HX101.out m hmt
                  obtain ⟨sm, hsm⟩ : ∃ sm : ByteArray, encStr ts[m] = .string sm := ⟨_, rfl⟩
                  rw [hsm] at k1 k3
                  clear hsm
                  have hself : (sm.toList == sm.toList) = true := by simp
                  go_wp2_with fail
                  go_quiet (fail)
                  go_wp2_with fail
                  go_roundg (ts.length - (m + 1))
                  case measure => omega
                  case rel => exact ⟨m + 1, _, by omega, by go_num, by first | rfl | (rw [World.drewN_drewN])⟩
                · obtain rfl : m = ts.length := by omega
                  go_wp2_with fail
                  go_meet
                  case rel => exact ⟨_, rfl⟩
          case rest =>
            obtain ⟨q, rfl⟩ := hcut
            rw [lasts_firsts A L i]
            have ST6 := hide (ST5.out.below ((Below.refl _ _).alloc (Nat.le_refl _) (.cells #[.string name, .slice ao3 ts.length cap3] 97)))
            have HB6 := hide (HB5.out.alloc HB5.out.size (.cells #[.string name, .slice ao3 ts.length cap3] 97))
            generalize w5.alloc (.cells #[.string name, .slice ao3 ts.length cap3] 97) = W6 at *
            clear HX9 HX28 HX101 ST5 HB5 hw5 hdec hnilv
            have nd := ST6.out.nd
            have mp := ST6.out.mp
            have hln : ∀ (q : Nat) (ty : TypeId), (Builtin.len_ #[30] ty #[.map (some (M + 1))]).run Ybad.prog (W6.drewN q) = .ok (.int .i64 (firsts A L i).length) (W6.drewN q) := fun q ty => (ST6.out.sm.same (w' := W6.drewN q) rfl).len Ybad.underlying30 ty
            go_wp2_with fail
            clear hln nd mp
            go_loopg [235] i (fun gk j wr => ∃ m : Nat, gk + m = i ∧ j = .int .i64 m ∧ Hid (Below W6.heap.size W6 wr))
            case atStart => exact ⟨0, by omega, rfl, below_drewN (Below.refl _ _) _⟩
            case round =>
              obtain ⟨m, hm, rfl, HBM⟩ := hrel
              by_cases hmi : m < i
              · have hmi' : (m : Int) < (i : Int) := by omega
                have STM := hide (ST6.out.below HBM.out)
                go_wp2_with fail
                refine (last_any a0 i c A L m wr hmi hn STM.out.hs).mono ?_
                rintro e w7 ⟨rfl, q2, hw⟩
                have HB7 : Hid (Below W6.heap.size W6 w7) := by rw [hw]; exact below_drewN HBM.out _
                clear hw STM HBM
                have STM := hide (ST6.out.below HB7.out)
                cases hl : lastB A i m with
                | false =>
                  clear hl
                  go_wp2_with fail
                  go_roundg (i - (m + 1))
                  case measure => omega
                  case rel => exact ⟨m + 1, by omega, by go_num, HB7⟩
                | true =>
                  have HG : Hid (gUpto A L i (A m).data.toList = some (L m)) := gUpto_last A L hmi hl
                  clear hl
                  obtain ⟨l0, l1⟩ := HL.out m hmi
                  obtain ⟨b, o, rfl, hbl, c0, c1⟩ := STM.out.hs m hmi
                  have mp := STM.out.mp
                  have hmpl : M + 1 + 1 < w7.heap.size := World.block_lt_of_cell? w7 _ mp
                  have hlk : ∀ w' : World, w'.heap[M + 1]? = w7.heap[M + 1]? → (Instr.lookup 30 (.map (some (M + 1))) (.string (A m)) true).run Ybad.prog w' = .ok (.tuple #[.agg #[.int .u64 (addW 0 (L m)), .int .i64 (addE 0 0 (L m)), .pointer none, .int .u64 0, .int .u64 0, .pointer none], .bool true]) w' := fun w' hw' => by
                    have h := (STM.out.sm.same hw').look_ok Ybad.underlying9 Ybad.underlying30 (zero46 _) (A m) (HA.out m hmi)
                    rw [HG.out] at h
                    exact h
                  have hlk1 := hlk w7.drew rfl
                  have hlk2 := hlk (w7.alloc (.cells #[.int .u64 0, .int .i64 0, .pointer none, .int .u64 0, .int .u64 0, .pointer none] 46)).drew (Below.heap_alloc _ _ _ (by omega))
                  clear hlk
                  go_wp2_with fail
                  go_region
                  all_goals
                    clear hlk1 hlk2
                    go_wp2_with fail
                    generalize hW8 : (w7.alloc (.cells #[.int .u64 (addW 0 (L m)), .int .i64 (addE 0 0 (L m)), .pointer none, .int .u64 0, .int .u64 0, .pointer none] 46)).drew = W8
                    have hb8 : Below w7.heap.size w7 W8 := by
                      rw [← hW8]
                      exact ((Below.refl _ _).alloc (Nat.le_refl _) _).drew
                    have hh8 : W8.heap[w7.heap.size]? = some (.cells #[.int .u64 (addW 0 (L m)), .int .i64 (addE 0 0 (L m)), .pointer none, .int .u64 0, .int .u64 0, .pointer none] 46) := by
                      rw [← hW8]
                      exact heap_alloc_new _ _
                    clear hW8
                    have HB8 := hide (HB7.out.trans (hb8.mono HB7.out.size))
                    have ST8 := hide (STM.out.below hb8)
                    have s0 := fun x : Aft W8 => x.cell (p := ⟨w7.heap.size, 0, none⟩) (v := .int .u64 (addW 0 (L m))) (by simp [World.cell?, hh8])
                    have s1 := fun x : Aft W8 => x.cell (p := ⟨w7.heap.size, 1, none⟩) (v := .int .i64 (addE 0 0 (L m))) (by simp [World.cell?, hh8])
                    have s2 := fun x : Aft W8 => x.cell (p := ⟨w7.heap.size, 2, none⟩) (v := .pointer none) (by simp [World.cell?, hh8])
                    have s3 := fun x : Aft W8 => x.cell (p := ⟨w7.heap.size, 3, none⟩) (v := .int .u64 0) (by simp [World.cell?, hh8])
                    have s4 := fun x : Aft W8 => x.cell (p := ⟨w7.heap.size, 4, none⟩) (v := .int .u64 0) (by simp [World.cell?, hh8])
                    have s5 := fun x : Aft W8 => x.cell (p := ⟨w7.heap.size, 5, none⟩) (v := .pointer none) (by simp [World.cell?, hh8])
                    have x0 := fun x : Aft W8 => x.cell (p := ⟨N, 0, none⟩) ST8.out.z0
                    have x1 := fun x : Aft W8 => x.cell (p := ⟨N, 1, none⟩) ST8.out.z1
                    have x2 := fun x : Aft W8 => x.cell (p := ⟨N, 2, none⟩) ST8.out.z2
                    have y1 := fun x : Aft W8 => x.cell (p := ⟨b, o + m * 2 + 1, none⟩) ((hb8.cell (p := ⟨b, o + m * 2 + 1, none⟩) hbl).trans c1)
                    have t26 := fun w' => eqIn24 9998 w'
                    have HGZ := hide (fun x : Aft W8 => x.cell (p := ⟨0, 0, none⟩) ST8.out.gz)
                    clear hb8 hh8
                    refine wp_region_aft (by kernel_rfl) (by kernel_rfl) ?_
                    repeat (go_big_quiet_step ((first | (go_at_call 4; exact aft_of (add_any 0 0 (L m) _ (by omega) (by omega) l0 l1)) | (go_at_call 8; exact aft_of (valid_any _ (HGZ.out _))))))
                    refine wpQuiet_nil ?_
                    rintro w' ⟨x, rfl⟩
                    have HX := hide (HB8.out.trans (x.h.mono HB8.out.size))
                    generalize x.u = w9 at *
                    clear s0 s1 s2 s3 s4 s5 x0 x1 x2 y1 t26 HGZ
                    go_wp2_with fail
                    go_roundg (i - (m + 1))
                    case measure => omega
                    case rel => exact ⟨m + 1, by omega, by go_num, HX⟩
              · obtain rfl : m = i := by omega
                go_wp2
                go_ret
                refine ⟨rfl, ?_⟩
                rw [hNN]
                exact BW3.out.trans ((HB6.out.trans (HBM.out.mono HB6.out.size)).mono (by rw [← hNN]; exact hNN ▸ BW3.out.size))
end Go.Proofs.YbulkdlbcDoor
