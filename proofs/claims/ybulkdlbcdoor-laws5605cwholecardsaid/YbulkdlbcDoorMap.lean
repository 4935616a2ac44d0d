/-
  A MAP KEYED BY STRINGS THAT THE CALL ITSELF MADE, WHATEVER ITS ELEMENTS: said as a function from keys to values. Over 'World.ownsMap' of the library, each element read as itself.
-/
import Derived.Test.YbulkdlbcDoorLast
import Derived.Maps.Range
import Derived.Maps.RangeWalk
import Derived.Maps.OwnSet
import Derived.StringKeys
import Derived.LaidEql
namespace Go.Proofs.YbulkdlbcDoor
open Go.RowKit Go.Maps Go.WideMaps


theorem new_cell (w : World) {C : Array Value} {t : TypeId} {i N : Nat} {v : Value} (hN : N = w.heap.size) (h : C[i]? = some v) : (w.alloc (.cells C t)).cell? ⟨N, i, none⟩ = some v := by
  subst hN
  simp only [World.cell?, heap_alloc_new, h]
  rfl
theorem new_block (w : World) {o : Obj} {N : Nat} (hN : N = w.heap.size) : (w.alloc o).heap[N]? = some o := by
  subst hN
  exact heap_alloc_new _ _
theorem new_frozen (w : World) {C : Array Value} {t : TypeId} {i N : Nat} (hN : N = w.heap.size) : (w.alloc (.cells C t)).frozen? ⟨N, i, none⟩ = false := by
  subst hN
  simp only [World.frozen?, heap_alloc_new]
  simp

/-- An element, read as itself. -/
def self (v : Value) : Option (DataW Value × List MemPlace) := some (.held v, [])

/-- 'f' with 's' bound to 'v'. -/
def bind (f : List UInt8 → Option Value) (s : List UInt8) (v : Value) : List UInt8 → Option Value := fun s' => if s' = s then some v else f s'

/-- BLOCK b OF w IS A MAP OF AT MOST n ENTRIES, sz OF THEM, THAT BINDS KEYS AS f SAYS. -/
def SM (P : Program) (k : TypeId) (w : World) (b n sz : Nat) (f : List UInt8 → Option Value) : Prop :=
  ∃ D : DataW Value, w.ownsMap P k self b n D ∧ Maps.size D = sz ∧ ∀ s, (∀ z, D.atKey (.string s) (.held z) = .held ((f s).getD z)) ∧ Maps.has D (.string s) = (f s).isSome

section
variable {P : Program} {k e t : TypeId} {w : World} {b n sz : Nat} {f : List UInt8 → Option Value}

theorem SM.made (w : World) (P : Program) (k : TypeId) : SM P k (w.alloc (.map #[] 0)) w.heap.size 0 0 (fun _ => none) :=
  ⟨.map [], World.ownsMap_made w P k self, rfl, fun _ => ⟨fun _ => rfl, rfl⟩⟩

theorem SM.lt (h : SM P k w b n sz f) : b < w.heap.size := let ⟨_, h1, _⟩ := h; h1.lt

theorem SM.size_le (h : SM P k w b n sz f) : sz ≤ n := by
  obtain ⟨D, h1, rfl, _⟩ := h
  exact h1.size_le

theorem SM.same {w' : World} (h : SM P k w b n sz f) (hb : w'.heap[b]? = w.heap[b]?) : SM P k w' b n sz f := by
  obtain ⟨D, ⟨es, clock, h1, h2⟩, h3⟩ := h
  exact ⟨D, ⟨es, clock, hb.trans h1, h2⟩, h3⟩

theorem SM.below {w' : World} {B : Nat} (h : SM P k w b n sz f) (hB : Below B w w') (hb : b < B) : SM P k w' b n sz f := h.same (hB.block b hb)

theorem SM.mono {n' : Nat} (h : SM P k w b n sz f) (hn : n ≤ n') : SM P k w b n' sz f := let ⟨D, h1, h2⟩ := h; ⟨D, h1.mono hn, h2⟩

theorem SM.look (h : SM P k w b n sz f) (hk : P.underlying k = some .string) (ht : P.underlying t = some (.map k e)) {z : Value} (hz : (zeroValue e).run P w = .ok z w) (s : ByteArray) (hs : s.size ≤ maxLen) :
    (Instr.lookup t (.map (some b)) (.string s) false).run P w = .ok ((f s.data.toList).getD z) w := by
  obtain ⟨D, h1, _, h3⟩ := h
  obtain ⟨v, ps, hr, hv⟩ := h1.lookup (string_keyed hk) ht hz (zd := .held z) (zp := []) rfl (keyOf_string_mk hk hs)
  rw [(h3 _).1] at hv
  simp [self] at hv
  rw [hr, hv.1]

theorem SM.look_ok (h : SM P k w b n sz f) (hk : P.underlying k = some .string) (ht : P.underlying t = some (.map k e)) {z : Value} (hz : (zeroValue e).run P w = .ok z w) (s : ByteArray) (hs : s.size ≤ maxLen) :
    (Instr.lookup t (.map (some b)) (.string s) true).run P w = .ok (.tuple #[(f s.data.toList).getD z, .bool (f s.data.toList).isSome]) w := by
  obtain ⟨D, h1, _, h3⟩ := h
  obtain ⟨v, ps, hr, hv⟩ := h1.look_ok (string_keyed hk) ht hz (zd := .held z) (zp := []) rfl (keyOf_string_mk hk hs)
  rw [(h3 _).1] at hv
  rw [(h3 _).2] at hr
  simp [self] at hv
  rw [hr, hv.1]

theorem SM.len (h : SM P k w b n sz f) (ht : P.underlying t = some (.map k e)) (ty : TypeId) : (Builtin.len_ #[t] ty #[.map (some b)]).run P w = .ok (.int .i64 sz) w := by
  obtain ⟨D, h1, rfl, _⟩ := h
  exact h1.len ht ty

theorem SM.upd (h : SM P k w b n sz f) (hk : P.underlying k = some .string) (ht : P.underlying t = some (.map k e)) (hn : n < maxLen) (s : ByteArray) (hs : s.size ≤ maxLen) (v : Value) :
    ∃ w', (Instr.mapUpdate t (.map (some b)) (.string s) v).run P w = .ok () w' ∧ SM P k w' b (n + 1) (if (f s.data.toList).isSome then sz else sz + 1) (bind f s.data.toList v) ∧ w.grownBy w' (some b) := by
  obtain ⟨D, h1, h2, h3⟩ := h
  obtain ⟨w', hr, ho, hg⟩ := h1.update (string_keyed hk) ht hn (keyOf_string_mk hk hs) (val := v) (d := .held v) (ps := []) rfl
  refine ⟨w', hr, ⟨_, ho, ?_, fun s' => ?_⟩, hg⟩
  · rw [size_put (h1.tidy (string_keyed hk)), (h3 _).2, h2]
  · by_cases hss : s' = s.data.toList
    · subst hss
      exact ⟨fun z => by rw [atKey_put_same h1.isMap (by trivial)]; simp [bind], by rw [has_put_same h1.isMap (by trivial)]; simp [bind]⟩
    · have hne : Lit.string s' ≠ Lit.string s.data.toList := fun hh => hss (by injection hh)
      exact ⟨fun z => by rw [atKey_put_other hne, (h3 s').1 z]; simp [bind, hss], by rw [has_put_other hne, (h3 s').2]; simp [bind, hss]⟩
end
end Go.Proofs.YbulkdlbcDoor
