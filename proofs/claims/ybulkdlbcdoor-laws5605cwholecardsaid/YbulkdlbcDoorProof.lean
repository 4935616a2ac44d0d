/-
  THE ROW of 'octant.LawS5605CWhole' over the walk, and THE TIED CARD.
-/
import Derived.Test.YbulkdlbcDoorLaw
import Derived.Test.YbulkdlbcDoorTie
import Derived.Test.YbulkdlbcDoorCards
import Derived.ProofKit
import Derived.LaidMore
import Derived.ChangeBears2
import Derived.Stop.Joined
import Derived.SevenTiedAt
import Derived.Deep.SlicePairs
namespace Go.Proofs.YbulkdlbcDoor
open Go.ChangeShapes Go.WideShapes Go.ChangeAt Go.RowKit
open Go.ChangeMaps (open_string shut_string)

def vName : String := ((Rows.lawS5605CWholeRow.laid).map (fun x => x.1)).headD default
theorem own : ownKnob Ybad.prog.godebug = none := by kernel_rfl
theorem laidOut : laidOutB Ybad.prog = true := by kernel_rfl
theorem gZ : Ybad.prog.globalNamed vName = some 0 := by kernel_rfl
theorem tZ : (Ybad.prog.globals[0]?).map (·.type) = some 42 := by kernel_rfl
theorem cells37 : Ybad.prog.cellsOf 37 = 2 := by kernel_rfl
theorem cells9 : Ybad.prog.cellsOf 9 = 1 := by kernel_rfl
theorem cells2 : Ybad.prog.cellsOf 2 = 1 := by kernel_rfl
theorem cells42 : Ybad.prog.cellsOf 42 = 1 := by kernel_rfl
theorem cells40 : Ybad.prog.cellsOf 40 = 1 := by kernel_rfl

/-- The door's own heap meets the condition. -/
theorem door_met (os : Os) (args : Array Value) : laidMetH Ybad.prog Rows.lawS5605CWholeRow.laid ((World.doorLaid Ybad.prog 11 os).forCall (fun _ _ => 0) ⟨#[], args, []⟩).memory :=
  laidMetH_of_parts3 (fuel := 8) (laidMet_of_run' 8 (by kernel_rfl) (by kernel_rfl)) (by kernel_rfl) (by kernel_rfl)

theorem of_laid {W : World} (h : laidMetH Ybad.prog Rows.lawS5605CWholeRow.laid W) : W.cell? ⟨0, 0, none⟩ = some (.pointer none) := by
  rw [MakeChecks.laidMetH_plain _ _ _ (by kernel_rfl)] at h
  obtain ⟨ps, ⟨g0, t0, cs0, f0, p0, q0, hg0, ht0, hv0, hd0, _, _⟩, _, _⟩ := h
  obtain rfl := Option.some.inj (gZ.symm.trans hg0)
  obtain rfl := Option.some.inj (tZ.symm.trans ht0)
  obtain ⟨xs, n, rfl, hx, hlen, hxs, hf⟩ := DataW.trod_struct Ybad.underlying42 hd0
  have h0 := hf 0 _ rfl
  rw [cells42] at hlen
  obtain ⟨y, rfl⟩ : ∃ y, xs = [y] := List.length_eq_one_iff.1 hxs
  have hy : y.1 = .nil := by
    have h := congrArg Prod.fst hx
    simp [Rows.laid_net_netip_z0] at h
    exact h.symm
  dsimp only [List.getElem_toArray, List.getElem_cons_zero] at h0
  rw [cells40, List.drop_zero, List.take_of_length_le (by omega), List.getElem?_cons_zero] at h0
  rcases DataW.trod_pointer Ybad.underlying40 h0 with ⟨hc, _⟩ | ⟨_, _, z, _, _, _, hz, _⟩
  · have hcell := World.var?_cell hg0 hv0 0
    rw [Array.eq_one_of_toList hc] at hcell
    simpa using hcell
  · rw [hz] at hy
    cases hy

theorem bounds64 {n : Int} (h : (Lit.int .i64 n).wf = true) : -9223372036854775808 ≤ n ∧ n ≤ 9223372036854775807 := by
  simp [Lit.wf, IntKind.min, IntKind.max, IntKind.signed, IntKind.bits] at h
  omega

set_option maxRecDepth 100000 in
theorem lifted (os : Os) (started : os.Started) (H : Type) (enc : TypeId × Value → H) :
    ReturnsInHanded {} Ybad.checked os 3 .any (fun w args => (Rows.lawS5605CWholeSpec.pre enc Ybad.prog Ybad.f3 [] false w args ∧ laidMetH Ybad.prog Rows.lawS5605CWholeRow.laid w) ∧ sizedMet enc Ybad.prog Ybad.f3 (OpenSpec.ofChange Rows.lawS5605CWholeSpec) false w args)
      (Rows.lawS5605CWholeSpec.post enc Ybad.prog Ybad.f3 false true false false) := by
  refine returnsInHanded_of_change_and (C := Ybad.checked) (X := fun w _ => laidMetH Ybad.prog Rows.lawS5605CWholeRow.laid w) (fun _ _ _ hh h => h.of_heap hh) own started (by kernel_rfl) Ybad.func3
    (ChangeSpec.witness_shaped (enc := enc) (C := Ybad.checked) (os := os) (X := fun w _ => laidMetH Ybad.prog Rows.lawS5605CWholeRow.laid w) false (World.doorLaid Ybad.prog 11 os) #[.string ⟨#[]⟩, .int .i64 0, .int .i64 0, .slice none 0 0] 8 rfl (World.shaped_of_RefB (by kernel_rfl) (by kernel_rfl)) (by kernel_rfl) (by kernel_rfl) (by kernel_rfl) (door_met os _)) ?_
  intro W base args ds gs before hval0 hW _ _ hL _
  have hval : ∀ (j : Nat) t v, Ybad.f3.params[j]? = some t → args[j]? = some v → Value.okWide Ybad.prog W .any base t v := hval0
  have hW' := hW
  obtain ⟨p, q, hA0, hV, rfl, _, _⟩ := hW
  have hA : DataW.TrodAll enc Ybad.prog W 0 (fun _ => true) true Ybad.f3.params.toList args.toList ds p := hA0
  rw [Ybad.params3] at hA hval
  obtain ⟨v0, v1, v2, v3, d0, d1, d2, d3, p0, p1, p2, p3, rfl, rfl, rfl, h0, h1, h2, h3⟩ := trodAll_four hA
  obtain ⟨rfl, rfl⟩ := trodVars_none hV
  obtain ⟨name, rfl, rfl, rfl, hname⟩ := open_string Ybad.underlying9 (hval 0 9 v0 rfl rfl) h0
  obtain ⟨per, rfl, rfl, rfl, wper⟩ := open_int Ybad.underlying2 (hval 1 2 v1 rfl rfl) h1
  obtain ⟨nw, rfl, rfl, rfl, wnw⟩ := open_int Ybad.underlying2 (hval 2 2 v2 rfl rfl) h2
  obtain ⟨a0, len, cap, rfl⟩ := okWide_slice Ybad.underlying22 (hval 3 22 v3 rfl rfl)
  have h3k := h3
  obtain ⟨fuel, hf⟩ := h3
  have hgz := of_laid hL
  clear hA0 hval0 hA hV
  simp only [List.append_nil, List.nil_append] at hW'
  have hlt : ∀ x ∈ p3, x.block < W.heap.size := fun x hx => by simpa using hW'.lt x (by simpa using hx)
  have hargs : ∀ (W' : World), Below W.heap.size W W' → DataW.Trod enc Ybad.prog W' 0 (fun b => decide (b < W.heap.size)) true 22 (.slice a0 len cap) d3 p3 :=
    fun W' hn => Below.trod laidOut (by kernel_rfl) (of_decide_eq_true (by kernel_rfl)) h3k hn hlt
  have fin : ∀ (e : Ending) (W' : World), (e = .returned (.bool true) ∧ Below W.heap.size W W') → ∃ v, e = .returned v ∧ Rows.lawS5605CWholeSpec.post enc Ybad.checked.prog Ybad.f3 false true false false W #[.string name, .int .i64 per, .int .i64 nw, .slice a0 len cap] v W' := by
    rintro e W' ⟨rfl, hnx⟩
    exact ⟨_, rfl, _, _, _, [], [] ++ ([] ++ ([] ++ p3)), [], hW', trodAll_mk1 (shut_bool Ybad.underlying4 _), trodAll_mk4 (shut_string Ybad.underlying9 hname) (shut_int Ybad.underlying2 wper) (shut_int Ybad.underlying2 wnw) (hargs _ hnx), rfl, hnx.frame _, fun h => by cases h⟩
  suffices hx : ∃ (A : Nat → ByteArray) (L : Nat → Int), (∀ i, i < len → (A i).size ≤ maxLen) ∧ (∀ i, i < len → -9223372036854775808 ≤ L i ∧ L i ≤ 9223372036854775807) ∧ Hs W a0 len A L by
    obtain ⟨A, L, hA', hL', hc⟩ := hx
    by_cases hb : 4096 < len
    · exact (law_big name per nw a0 len cap W hb).mono fin
    · exact (law_walk name per nw a0 len cap A L W (by omega) (bounds64 wnw) hA' hL' hc hgz).mono fin
  rcases Deep.open_slice_pairs Ybad.underlying22 Ybad.underlying37 cells37 rfl rfl cells9 cells2 hf with ⟨hcs, hx⟩ | ⟨a, len', cap', m, n, V0, V1, D0, D1, P0, P1, hcs, _, hl, hm, hmm, hx, hcell⟩
  · simp [Value.cells] at hcs
    obtain ⟨rfl, rfl, rfl⟩ := hcs
    exact ⟨fun _ => ⟨#[]⟩, fun _ => 0, fun i hi => by omega, fun i hi => by omega, fun i hi => by omega⟩
  · simp [Value.cells] at hcs
    obtain ⟨rfl, rfl, rfl⟩ := hcs
    simp only [if_true] at hmm
    subst hmm
    have each : ∀ i, i < len → ∃ x : ByteArray × Int, V0 i = .string x.1 ∧ x.1.size ≤ maxLen ∧ V1 i = .int .i64 x.2 ∧ -9223372036854775808 ≤ x.2 ∧ x.2 ≤ 9223372036854775807 := by
      intro i hi
      obtain ⟨_, _, g0, g1⟩ := hcell i (by omega)
      obtain ⟨s, e0, _, hs⟩ := DataW.trod_string Ybad.underlying9 g0
      obtain ⟨z, e1, _, hz⟩ := DataW.trod_int Ybad.underlying2 g1
      simp only [List.cons.injEq, and_true] at e0 e1
      exact ⟨(s, z), e0, hs, e1, bounds64 hz⟩
    obtain ⟨X, hX⟩ := Deep.choose_lt each
    refine ⟨fun i => (X i).1, fun i => (X i).2, fun i hi => (hX i hi).2.1, fun i hi => (hX i hi).2.2.2, fun i hi => ?_⟩
    obtain ⟨b, off, spot⟩ := a
    have hspot : spot = none := by simpa [Addr.add] using World.cell?_spot (hcell 0 (by omega)).1
    subst hspot
    obtain ⟨g0, g1, _⟩ := hcell i (by omega)
    rw [add_plain] at g0 g1
    have k0 : W.cell? ⟨b, off + i * 2, none⟩ = some (.string (X i).1) := by rw [g0, (hX i hi).1]
    exact ⟨b, off, rfl, World.block_lt_of_cell? W _ k0, k0, by rw [Nat.add_assoc, g1, (hX i hi).2.2.1]⟩

theorem row_holds : Rows.LawS5605CWholeSaid :=
  OpenClaim.holds_of_wide 3 Ybad.f3 rfl rfl rfl rfl rfl rfl rfl ⟨rfl, rfl, rfl, rfl, rfl⟩ rfl rfl rfl rfl rfl (by kernel_rfl) Ybad.func3 (by kernel_rfl)
    (of_decide_eq_true (by kernel_rfl)) (by unfold Func.isWrapper; first | (rw [if_pos (by decide +kernel)]; kernel_rfl) | (rw [if_neg (by decide +kernel)]; exact ⟨rfl, rfl⟩))
    (fun os started H enc _ => lifted os started H enc)

/-- THE TIED CARD. -/
theorem card_proved : Rows.LawS5605CWholeCardSaid :=
  Claim7.holds_tied_plain_at .later [] [.zero] true _ false
    row_holds (fun _ h => by cases h) (by kernel_rfl) (fun _ h => by cases h) lawS5605CWhole_row_tie rfl ⟨rfl, rfl⟩ (by kernel_rfl) rfl
    (fun f fn hf hfn => by
      obtain rfl : f = 3 := Option.some.inj ((show Ybad.prog.funcNamed Rows.lawS5605CWholeRow.func = some 3 by kernel_rfl).symm.trans hf) |>.symm
      obtain rfl : fn = Ybad.f3 := (Option.some.inj (Ybad.func3.symm.trans hfn)).symm
      exact ⟨by kernel_rfl, fun j t ht => by
        rw [Ybad.params3] at ht
        have hm : t ∈ [9, 2, 2, 22] := by simpa using Array.mem_of_getElem? ht
        have hall : ([9, 2, 2, 22].all fun u => !Ybad.prog.wantsStandIn u) = true := by kernel_rfl
        exact (show Ybad.prog.wantsStandIn t = false by simpa using List.all_eq_true.1 hall t hm)⟩)
    (by kernel_rfl)
end Go.Proofs.YbulkdlbcDoor
