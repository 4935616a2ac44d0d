/-
  THE ROW of 'gate.LawS5609CWhole' over the walk.
-/
import Derived.Test.YbulkdldgLaw
import Derived.ProofKit
import Derived.Laws.IdiomArrays
namespace Go.Proofs.Ybulkdldg
open Go.ChangeShapes Go.WideShapes Go.ChangeAt Go.RowKit

theorem own : ownKnob Yba.prog.godebug = none := by kernel_rfl
theorem cells3 : Yba.prog.cellsOf 3 = 1 := by kernel_rfl
theorem cells5 : Yba.prog.cellsOf 5 = 1 := by kernel_rfl
theorem cells22 : Yba.prog.cellsOf 22 = 3 := by kernel_rfl
theorem cells23 : Yba.prog.cellsOf 23 = 3 := by kernel_rfl
theorem list3 {α : Type} (l : List α) (h : (⟨l⟩ : Array α).size = 3) : ∃ a b c, l = [a, b, c] := by
  match l, h with
  | [a, b, c], _ => exact ⟨a, b, c, rfl⟩

/-- Three numbers as a function. -/
def at3 (a b c : Int) (i : Nat) : Int := match i with
  | 0 => a
  | 1 => b
  | 2 => c
  | _ => 0
theorem at3_bounds {a b c : Int} (ha : 0 ≤ a ∧ a ≤ 255) (hb : 0 ≤ b ∧ b ≤ 255) (hc : 0 ≤ c ∧ c ≤ 255) (i : Nat) : 0 ≤ at3 a b c i ∧ at3 a b c i ≤ 255 := by
  match i with
  | 0 => exact ha
  | 1 => exact hb
  | 2 => exact hc
  | _ + 3 => exact ⟨by simp [at3], by simp [at3]⟩

theorem bounds_u8 {n : Int} (h : (Lit.int .u8 n).wf = true) : 0 ≤ n ∧ n ≤ 255 := by
  simp [Lit.wf, IntKind.min, IntKind.max, IntKind.signed, IntKind.bits] at h
  omega

/-- An array of three numbers by value, opened. -/
theorem open3 {H : Type} {enc : TypeId × Value → H} {P : Program} {W : World} {base : Nat} {t e : TypeId} {k : IntKind} {v : Value} {d : DataW H} {p : List MemPlace} (ht : P.underlying t = some (.array 3 e)) (he : P.underlying e = some (.int k)) (hct : P.cellsOf t = 3) (hce : P.cellsOf e = 1)
    (hv : Value.okWide P W .any base t v) (h : DataW.Trod enc P W 0 (fun _ => true) true t v d p) :
    ∃ a b c, v = .agg #[.int k a, .int k b, .int k c] ∧ p = [] ∧ (Lit.int k a).wf = true ∧ (Lit.int k b).wf = true ∧ (Lit.int k c).wf = true ∧ d = .agg [.lit (.int k a), .lit (.int k b), .lit (.int k c)] ∧
      ∀ (W' : World) (base' : Nat) (sp : Nat → Bool), DataW.Trod enc P W' base' sp true t (.agg #[.int k a, .int k b, .int k c]) d [] := by
  obtain ⟨cs, rfl, hsz, _⟩ : ∃ cs, v = .agg cs ∧ cs.size = P.cellsOf t ∧ Row.okWide P W .any base t cs := by
    simpa [Value.okWide, ht] using hv
  rw [hct] at hsz
  obtain ⟨l⟩ := cs
  obtain ⟨c0, c1, c2, rfl⟩ := list3 l hsz
  obtain ⟨fuel, hf⟩ := h
  obtain ⟨y0, y1, y2, m, hx, hy0, hy1, hy2⟩ := trod_array3 ht hce hf
  obtain ⟨x0, e0, rfl, w0⟩ := DataW.trod_int he hy0
  obtain ⟨x1, e1, rfl, w1⟩ := DataW.trod_int he hy1
  obtain ⟨x2, e2, rfl, w2⟩ := DataW.trod_int he hy2
  simp at e0 e1 e2
  subst e0 e1 e2
  simp only [Prod.mk.injEq] at hx
  obtain ⟨rfl, rfl⟩ := hx
  exact ⟨x0, x1, x2, rfl, rfl, w0, w1, w2, rfl, fun W' b' sp => ⟨2, by simp [DataW.trod, Value.cells, ht, he, hct, hce, w0, w1, w2, show List.range 3 = [0, 1, 2] from rfl]⟩⟩

set_option maxRecDepth 100000 in
theorem lifted (os : Os) (started : os.Started) (H : Type) (enc : TypeId × Value → H) :
    ReturnsInHanded {} Yba.checked os 3 .any (Rows.lawS5609CWholeSpec.pre6 enc Yba.prog Yba.f3 Rows.lawS5609CWholeRow.domain false) (Rows.lawS5609CWholeSpec.post enc Yba.prog Yba.f3 false true false false) := by
  refine returnsInHanded_of_change (C := Yba.checked) own started (by kernel_rfl) Yba.func3
    (ChangeSpec.witness6 (enc := enc) (C := Yba.checked) false ⟨#[], #[.agg #[.int .i64 0, .int .i64 0, .int .i64 0], .agg #[.int .i64 0, .int .i64 0, .int .i64 0], .agg #[.int .u8 0, .int .u8 0, .int .u8 0], .agg #[.int .u8 0, .int .u8 0, .int .u8 0]], []⟩ 8 (by kernel_rfl) (by kernel_rfl) (by kernel_rfl) (by kernel_rfl)) ?_
  intro W base args ds gs before hval0 hW hcnd _
  have hval : ∀ (j : Nat) t v, Yba.f3.params[j]? = some t → args[j]? = some v → Value.okWide Yba.prog W .any base t v := hval0
  have hW' := hW
  obtain ⟨p, q, hA0, hV, rfl, _, _⟩ := hW
  have hA : DataW.TrodAll enc Yba.prog W 0 (fun _ => true) true Yba.f3.params.toList args.toList ds p := hA0
  rw [Yba.params3] at hA hval
  obtain ⟨v0, v1, v2, v3, d0, d1, d2, d3, p0, p1, p2, p3, rfl, rfl, rfl, h0, h1, h2, h3⟩ := trodAll_four hA
  obtain ⟨rfl, rfl⟩ := trodVars_none hV
  obtain ⟨a0, b0, c0, rfl, rfl, _, _, _, _, s0⟩ := open3 Yba.underlying22 Yba.underlying3 cells22 cells3 (hval 0 22 v0 rfl rfl) h0
  obtain ⟨a1, b1, c1, rfl, rfl, _, _, _, _, s1⟩ := open3 Yba.underlying22 Yba.underlying3 cells22 cells3 (hval 1 22 v1 rfl rfl) h1
  obtain ⟨a2, b2, c2, rfl, rfl, x2, y2, z2, _, s2⟩ := open3 Yba.underlying23 Yba.underlying5 cells23 cells5 (hval 2 23 v2 rfl rfl) h2
  obtain ⟨a3, b3, c3, rfl, rfl, x3, y3, z3, _, s3⟩ := open3 Yba.underlying23 Yba.underlying5 cells23 cells5 (hval 3 23 v3 rfl rfl) h3
  clear hA0 hval0
  simp only [List.append_nil] at hW'
  refine (law_walk (at3 a0 b0 c0) (at3 a1 b1 c1) (at3 a2 b2 c2) (at3 a3 b3 c3) W (at3_bounds (bounds_u8 x2) (bounds_u8 y2) (bounds_u8 z2)) (at3_bounds (bounds_u8 x3) (bounds_u8 y3) (bounds_u8 z3))).mono ?_
  rintro e W' ⟨rfl, hnx⟩
  exact ⟨_, rfl, _, _, _, [], [] ++ ([] ++ ([] ++ [])), [], hW', trodAll_mk1 (shut_bool Yba.underlying4 _), trodAll_mk4 (s0 _ _ _) (s1 _ _ _) (s2 _ _ _) (s3 _ _ _), rfl, hnx.frame _, fun h => by cases h⟩

theorem proved : Rows.LawS5609CWholeSaid :=
  OpenClaim.holds_of_wide 3 Yba.f3 rfl rfl rfl rfl rfl rfl rfl ⟨rfl, rfl, rfl, rfl, rfl⟩ rfl rfl rfl rfl rfl (by kernel_rfl) Yba.func3 (by kernel_rfl)
    (of_decide_eq_true (by kernel_rfl)) (by unfold Func.isWrapper; first | (rw [if_pos (by decide +kernel)]; kernel_rfl) | (rw [if_neg (by decide +kernel)]; exact ⟨rfl, rfl⟩))
    (fun os started H enc _ => lifted os started H enc)
end Go.Proofs.Ybulkdldg
