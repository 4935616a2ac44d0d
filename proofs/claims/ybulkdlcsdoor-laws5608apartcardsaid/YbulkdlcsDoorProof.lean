/-
  THE ROW of 'gemini.LawS5608APart' over the walk, and THE TIED CARD.
-/
import Derived.Test.YbulkdlcsDoorLaw
import Derived.Test.YbulkdlcsDoorTie
import Derived.Test.YbulkdlcsDoorCards
import Derived.ProofKit
import Derived.LaidMore
import Derived.ChangeBears2
import Derived.Stop.Joined
import Derived.Maps.StringElems
import Derived.SevenTiedAt
namespace Go.Proofs.YbulkdlcsDoor
open Go.ChangeShapes Go.WideShapes Go.ChangeAt Go.WideMaps Go.WideElems Go.RowKit
open Go.ChangeMaps (open_string shut_string)

def vName : String := Rows.lawS5608APartSpec.vars.headD default
theorem own : ownKnob Ybad.prog.godebug = none := by kernel_rfl
theorem laidOut : laidOutB Ybad.prog = true := by kernel_rfl
theorem gStop : Ybad.prog.globalNamed vName = some 0 := by kernel_rfl
theorem tStop : (Ybad.prog.globals[0]?).map (·.type) = some 30 := by kernel_rfl
theorem law : KeyLaw Ybad.prog 9 := string_law Ybad.underlying9

/-- The door's own heap meets the condition. -/
theorem door_met (os : Os) (args : Array Value) : laidMetH Ybad.prog Rows.lawS5608APartRow.laid ((World.doorLaid Ybad.prog 64 os).forCall (fun _ _ => 0) ⟨#[], args, []⟩).memory :=
  laidMetH_of_parts3 (fuel := 8) (laidMet_of_run' 8 (by kernel_rfl) (by kernel_rfl)) (by kernel_rfl) (by kernel_rfl)

/-- The listed datum, asked at a key. -/
def look (s : ByteArray) : Option ByteArray :=
  match (Rows.laid_example_com_ratchet_ratchet_gemini_stopReasons (H := Unit)).atKey (.string s.data.toList) .nil with
  | .lit (.string l) => some ⟨l.toArray⟩
  | _ => none

theorem look_words (k : Nat) (hk : k < 10) : look (word k) = some (reason k) := by
  match k, hk with
  | 0, _ => rfl
  | 1, _ => rfl
  | 2, _ => rfl
  | 3, _ => rfl
  | 4, _ => rfl
  | 5, _ => rfl
  | 6, _ => rfl
  | 7, _ => rfl
  | 8, _ => rfl
  | 9, _ => rfl

theorem of_laid {W : World} (h : laidMetH Ybad.prog Rows.lawS5608APartRow.laid W) : ∃ bm, W.cell? ⟨0, 0, none⟩ = some (.map (some bm)) ∧ bm < W.heap.size ∧
    ∀ s : ByteArray, s.size ≤ maxLen → ∀ W' : World, W'.heap[bm]? = W.heap[bm]? → (Instr.lookup 30 (.map (some bm)) (.string s) true).run Ybad.prog W' = .ok (.tuple #[.string ((look s).getD ⟨#[]⟩), .bool (look s).isSome]) W' := by
  rw [MakeChecks.laidMetH_plain _ _ _ (by kernel_rfl)] at h
  obtain ⟨ps, ⟨g0, t0, cs0, f0, p0, q0, hg0, ht0, hv0, hd0, _, _⟩, _, _⟩ := h
  obtain rfl := Option.some.inj (gStop.symm.trans hg0)
  obtain rfl := Option.some.inj (tStop.symm.trans ht0)
  rcases open_map Ybad.underlying30 hd0 with ⟨_, hx⟩ | ⟨bm, es, clock, m, rfl, hcs, hb, _, F, hx⟩
  · simp [Rows.laid_example_com_ratchet_ratchet_gemini_stopReasons] at hx
  simp only [Prod.mk.injEq] at hx
  have hcell : W.cell? ⟨0, 0, none⟩ = some (.map (some bm)) := by
    have := World.var?_cell hg0 hv0 0
    rw [Array.eq_one_of_toList hcs] at this
    simpa using this
  refine ⟨bm, hcell, (Array.getElem?_eq_some_iff.1 hb).1, fun s hs W' hW' => ?_⟩
  have zero : (zeroValue 26).run Ybad.prog W' = .ok (.string ⟨#[]⟩) W' := by kernel_rfl
  unfold look
  rw [hx.1]
  rcases fit_lookup_ok (w := W') law Ybad.underlying30 zero (hW'.trans hb) F (keyOf_string_mk (s := s) Ybad.underlying9 hs) with ⟨hrun, hat⟩ | ⟨v, y, hrun, hRv, hat, _⟩
  · rw [hat .nil]
    exact hrun
  · obtain ⟨r, rfl, rfl, _⟩ := elemAt_string Ybad.underlying26 hRv
    rw [hat .nil]
    exact hrun

theorem var?_below {P : Program} {B g : Nat} {W W' : World} {n : String} {cs : Array Value} (h : Below B W W') (hg : P.globalNamed n = some g) (hgB : g < B) (hv : W.var? P n = some cs) : W'.var? P n = some cs := by
  unfold World.var? at hv ⊢
  simp only [hg, Option.bind_some] at hv ⊢
  rw [h.block g hgB]
  exact hv

set_option maxRecDepth 100000 in
theorem lifted (os : Os) (started : os.Started) (H : Type) (enc : TypeId × Value → H) :
    ReturnsInHanded {} Ybad.checked os 3 .any (fun w args => (Rows.lawS5608APartSpec.pre enc Ybad.prog Ybad.f3 [] false w args ∧ laidMetH Ybad.prog Rows.lawS5608APartRow.laid w) ∧ sizedMet enc Ybad.prog Ybad.f3 (OpenSpec.ofChange Rows.lawS5608APartSpec) false w args)
      (Rows.lawS5608APartSpec.post enc Ybad.prog Ybad.f3 false true false false) := by
  refine returnsInHanded_of_change_and (C := Ybad.checked) (X := fun w _ => laidMetH Ybad.prog Rows.lawS5608APartRow.laid w) (fun _ _ _ hh h => h.of_heap hh) own started (by kernel_rfl) Ybad.func3
    (ChangeSpec.witness_shaped (enc := enc) (C := Ybad.checked) (os := os) (X := fun w _ => laidMetH Ybad.prog Rows.lawS5608APartRow.laid w) false (World.doorLaid Ybad.prog 64 os) #[.string ⟨#[]⟩, .int .u8 0, .bool false, .int .i64 0] 8 rfl (World.shaped_of_RefB (by kernel_rfl) (by kernel_rfl)) (by kernel_rfl) (by kernel_rfl) (by kernel_rfl) (door_met os _)) ?_
  intro W base args ds gs before hval0 hW _ _ hL _
  have hval : ∀ (j : Nat) t v, Ybad.f3.params[j]? = some t → args[j]? = some v → Value.okWide Ybad.prog W .any base t v := hval0
  have hW' := hW
  obtain ⟨p, q, hA0, hV0, rfl, hfz, hnd⟩ := hW
  have hA : DataW.TrodAll enc Ybad.prog W 0 (fun _ => true) true Ybad.f3.params.toList args.toList ds p := hA0
  have hV : DataW.TrodVars enc Ybad.prog W (fun _ => true) [vName] gs q := hV0
  rw [Ybad.params3] at hA hval
  obtain ⟨v0, v1, v2, v3, d0, d1, d2, d3, p0, p1, p2, p3, rfl, rfl, rfl, h0, h1, h2, h3⟩ := trodAll_four hA
  obtain ⟨g, t, cs, fuel, d, p', rfl, hg, ht, hvar, hd, rfl⟩ := trodVars_one hV
  obtain rfl := Option.some.inj (gStop.symm.trans hg)
  obtain rfl := Option.some.inj (tStop.symm.trans ht)
  obtain ⟨s, rfl, rfl, rfl, ws⟩ := open_string Ybad.underlying9 (hval 0 9 v0 rfl rfl) h0
  obtain ⟨pk, rfl, rfl, rfl, wpk⟩ := open_int Ybad.underlying5 (hval 1 5 v1 rfl rfl) h1
  obtain ⟨use, rfl, rfl, rfl⟩ := open_bool Ybad.underlying4 (hval 2 4 v2 rfl rfl) h2
  obtain ⟨calls, rfl, rfl, rfl, wcalls⟩ := open_int Ybad.underlying3 (hval 3 3 v3 rfl rfl) h3
  obtain ⟨bm, hc, hbm, hl⟩ := of_laid hL
  clear hA0 hV0 hval0 hA hV
  have hpk : 0 ≤ pk ∧ pk ≤ 255 := by have h := wpk; simp [Lit.wf, IntKind.min, IntKind.max, IntKind.signed, IntKind.bits] at h; omega
  obtain ⟨n, rfl⟩ := Int.eq_ofNat_of_zero_le hpk.1
  have h0lt : 0 < W.heap.size := World.block_lt_of_cell? W ⟨0, 0, none⟩ hc
  have hltv : ∀ x ∈ p', x.block < W.heap.size := fun x hx => hW'.lt x (List.mem_append_right _ (List.mem_append_right _ hx))
  refine (law_walk look bm n s use calls W (by omega) ws hc hbm hl look_words).mono fun e W' ⟨he, hB⟩ => ?_
  subst he
  obtain ⟨r, rfl⟩ : ∃ r, cs = #[.map r] := by
    rcases open_map Ybad.underlying30 hd with ⟨hcs, _⟩ | ⟨_, _, _, _, _, hcs, _⟩
    · exact ⟨_, Array.eq_one_of_toList hcs⟩
    · exact ⟨_, Array.eq_one_of_toList hcs⟩
  obtain ⟨fuel', hd'⟩ := Below.trod laidOut (by kernel_rfl) (of_decide_eq_true (by kernel_rfl)) (v := .map r) (⟨fuel, by simpa [Value.cells] using hd⟩ : DataW.Trod enc Ybad.prog W 0 (fun _ => true) true 30 (.map r) d p') hB hltv
  have hv' := trodVars_mk1 (enc := enc) (spare := fun b => decide (b < W.heap.size)) (fuel := fuel') (d := d) (p := p') hg ht (var?_below hB hg h0lt hvar) (by simpa [Value.cells] using hd')
  exact ⟨_, rfl, _, _, _, [], [] ++ ([] ++ ([] ++ [])), (MemPlace.row ⟨0, 0, none⟩ (#[.map r] : Array Value).size ++ p'), hW', trodAll_mk1 (shut_bool Ybad.underlying4 _),
    trodAll_mk4 (shut_string Ybad.underlying9 ws) (shut_int Ybad.underlying5 wpk) (shut_bool Ybad.underlying4 _) (shut_int Ybad.underlying3 wcalls), hv', hB.frame _, fun h => by cases h⟩

theorem row_holds : Rows.LawS5608APartSaid :=
  OpenClaim.holds_of_wide 3 Ybad.f3 rfl rfl rfl rfl rfl rfl rfl ⟨rfl, rfl, rfl, rfl, rfl⟩ rfl rfl rfl rfl rfl (by kernel_rfl) Ybad.func3 (by kernel_rfl)
    (of_decide_eq_true (by kernel_rfl)) (by unfold Func.isWrapper; first | (rw [if_pos (by decide +kernel)]; kernel_rfl) | (rw [if_neg (by decide +kernel)]; exact ⟨rfl, rfl⟩))
    (fun os started H enc _ => lifted os started H enc)

/-- THE TIED CARD. -/
theorem card_proved : Rows.LawS5608APartCardSaid :=
  Claim7.holds_tied_plain_at .later [] [.mappedDeep] true _ false
    row_holds (fun _ h => by cases h) (by kernel_rfl) (fun _ h => by cases h) lawS5608APart_row_tie rfl ⟨rfl, rfl⟩ (by kernel_rfl) rfl
    (fun f fn hf hfn => by
      obtain rfl : f = 3 := Option.some.inj ((show Ybad.prog.funcNamed Rows.lawS5608APartRow.func = some 3 by kernel_rfl).symm.trans hf) |>.symm
      obtain rfl : fn = Ybad.f3 := (Option.some.inj (Ybad.func3.symm.trans hfn)).symm
      exact ⟨by kernel_rfl, fun j t ht => by
        rw [Ybad.params3] at ht
        have hm : t ∈ [9, 5, 4, 3] := by simpa using Array.mem_of_getElem? ht
        have hall : ([9, 5, 4, 3].all fun u => !Ybad.prog.wantsStandIn u) = true := by kernel_rfl
        exact (show Ybad.prog.wantsStandIn t = false by simpa using List.all_eq_true.1 hall t hm)⟩)
    (by kernel_rfl)

end Go.Proofs.YbulkdlcsDoor
