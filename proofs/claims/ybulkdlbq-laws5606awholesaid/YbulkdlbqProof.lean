/-
  THE ROW of 'export.LawS5606AWhole' over the walk.
-/
import Derived.Test.YbulkdlbqLaw
import Derived.ProofKit
import Derived.Deep.SlicePairs
namespace Go.Proofs.Ybulkdlbq
open Go.ChangeShapes Go.WideShapes Go.ChangeAt Go.RowKit
open Go.ChangeMaps (open_string shut_string)

theorem own : ownKnob Yba.prog.godebug = none := by kernel_rfl
theorem laidOut : laidOutB Yba.prog = true := by kernel_rfl
theorem cells60 : Yba.prog.cellsOf 60 = 2 := by kernel_rfl
theorem cells9 : Yba.prog.cellsOf 9 = 1 := by kernel_rfl
theorem cells3 : Yba.prog.cellsOf 3 = 1 := by kernel_rfl

set_option maxRecDepth 100000 in
theorem lifted (os : Os) (started : os.Started) (H : Type) (enc : TypeId × Value → H) :
    ReturnsInHanded {} Yba.checked os 3 .any (Rows.lawS5606AWholeSpec.pre6 enc Yba.prog Yba.f3 Rows.lawS5606AWholeRow.domain false) (Rows.lawS5606AWholeSpec.post enc Yba.prog Yba.f3 false true false false) := by
  refine returnsInHanded_of_change (C := Yba.checked) own started (by kernel_rfl) Yba.func3
    (ChangeSpec.witness6 (enc := enc) (C := Yba.checked) false ⟨#[], #[.slice none 0 0, .string ⟨#[]⟩], []⟩ 8 (by kernel_rfl) (by kernel_rfl) (by kernel_rfl) (by kernel_rfl)) ?_
  intro W base args ds gs before hval0 hW hcnd _
  have hval : ∀ (j : Nat) t v, Yba.f3.params[j]? = some t → args[j]? = some v → Value.okWide Yba.prog W .any base t v := hval0
  have hW' := hW
  obtain ⟨p, q, hA0, hV, rfl, _, _⟩ := hW
  have hA : DataW.TrodAll enc Yba.prog W 0 (fun _ => true) true Yba.f3.params.toList args.toList ds p := hA0
  rw [Yba.params3] at hA hval
  obtain ⟨v0, v1, d0, d1, p0, p1, rfl, rfl, rfl, h0, h1⟩ := trodAll_two hA
  obtain ⟨rfl, rfl⟩ := trodVars_none hV
  obtain ⟨a0, len, cap, rfl⟩ := okWide_slice Yba.underlying22 (hval 0 22 v0 rfl rfl)
  obtain ⟨pre, rfl, rfl, rfl, hpre⟩ := open_string Yba.underlying9 (hval 1 9 v1 rfl rfl) h1
  have h0k := h0
  obtain ⟨fuel, hf⟩ := h0
  clear hA0 hval0
  simp only [List.append_nil] at hW'
  have hlt : ∀ x ∈ p0, x.block < W.heap.size := fun x hx => by simpa using hW'.lt x (by simpa using hx)
  have hargs : ∀ (W' : World), Below W.heap.size W W' → DataW.Trod enc Yba.prog W' 0 (fun b => decide (b < W.heap.size)) true 22 (.slice a0 len cap) d0 p0 :=
    fun W' hn => Below.trod laidOut (by kernel_rfl) (of_decide_eq_true (by kernel_rfl)) h0k hn hlt
  have fin : ∀ (e : Ending) (W' : World), (e = .returned (.bool true) ∧ Below W.heap.size W W') → ∃ v, e = .returned v ∧ Rows.lawS5606AWholeSpec.post enc Yba.checked.prog Yba.f3 false true false false W #[.slice a0 len cap, .string pre] v W' := by
    rintro e W' ⟨rfl, hnx⟩
    exact ⟨_, rfl, _, _, _, [], p0 ++ [], [], hW', trodAll_mk1 (shut_bool Yba.underlying4 _), trodAll_mk2 (hargs _ hnx) (shut_string Yba.underlying9 hpre), rfl, hnx.frame _, fun h => by cases h⟩
  suffices hx : len ≤ maxLen ∧ ∃ (A : Nat → ByteArray) (L : Nat → Int), (∀ i, i < len → (A i).size ≤ maxLen) ∧ ∀ i, i < len → ∃ b o, a0 = some ⟨b, o, none⟩ ∧ W.cell? ⟨b, o + i * 2, none⟩ = some (.string (A i)) ∧ W.cell? ⟨b, o + i * 2 + 1, none⟩ = some (.int .i64 (L i)) by
    obtain ⟨hl, A, L, hA', hc⟩ := hx
    by_cases hb : 4096 < len
    · exact (law_big a0 len cap pre W hb hl).mono fin
    · exact (law_walk a0 len cap A L pre W (by omega) hA' hpre hc).mono fin
  rcases Deep.open_slice_pairs Yba.underlying22 Yba.underlying60 cells60 rfl rfl cells9 cells3 hf with ⟨hcs, hx⟩ | ⟨a, len', cap', m, n, V0, V1, D0, D1, P0, P1, hcs, _, hl, hm, hmm, hx, hcell⟩
  · simp [Value.cells] at hcs
    obtain ⟨rfl, rfl, rfl⟩ := hcs
    exact ⟨by unfold maxLen; omega, fun _ => ⟨#[]⟩, fun _ => 0, fun i hi => by omega, fun i hi => by omega⟩
  · simp [Value.cells] at hcs
    obtain ⟨rfl, rfl, rfl⟩ := hcs
    simp only [if_true] at hmm
    subst hmm
    have each : ∀ i, i < len → ∃ x : ByteArray × Int, V0 i = .string x.1 ∧ x.1.size ≤ maxLen ∧ V1 i = .int .i64 x.2 := by
      intro i hi
      obtain ⟨_, _, g0, g1⟩ := hcell i (by omega)
      obtain ⟨s, e0, _, hs⟩ := DataW.trod_string Yba.underlying9 g0
      obtain ⟨z, e1, _, _⟩ := DataW.trod_int Yba.underlying3 g1
      simp only [List.cons.injEq, and_true] at e0 e1
      exact ⟨(s, z), e0, hs, e1⟩
    obtain ⟨X, hX⟩ := Deep.choose_lt each
    refine ⟨by omega, fun i => (X i).1, fun i => (X i).2, fun i hi => (hX i hi).2.1, fun i hi => ?_⟩
    obtain ⟨b, off, spot⟩ := a
    have hspot : spot = none := by simpa [Addr.add] using World.cell?_spot (hcell 0 (by omega)).1
    subst hspot
    obtain ⟨g0, g1, _⟩ := hcell i (by omega)
    rw [add_plain] at g0 g1
    exact ⟨b, off, rfl, by rw [g0, (hX i hi).1], by rw [Nat.add_assoc, g1, (hX i hi).2.2]⟩

theorem proved : Rows.LawS5606AWholeSaid :=
  OpenClaim.holds_of_wide 3 Yba.f3 rfl rfl rfl rfl rfl rfl rfl ⟨rfl, rfl, rfl, rfl, rfl⟩ rfl rfl rfl rfl rfl (by kernel_rfl) Yba.func3 (by kernel_rfl)
    (of_decide_eq_true (by kernel_rfl)) (by unfold Func.isWrapper; first | (rw [if_pos (by decide +kernel)]; kernel_rfl) | (rw [if_neg (by decide +kernel)]; exact ⟨rfl, rfl⟩))
    (fun os started H enc _ => lifted os started H enc)
end Go.Proofs.Ybulkdlbq
