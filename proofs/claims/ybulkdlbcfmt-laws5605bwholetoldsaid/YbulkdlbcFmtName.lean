/-
  THE WALKS of 'appendName' (function 6) and 'slices.Clip' (function 5).
-/
import Derived.Test.YbulkdlbcFmtRows
import Derived.WalkKit
import Derived.WalkSpells
import Derived.WalkLawsBesides
import Derived.Lib.AppendStr
import Derived.Stop.CallBack
import Derived.Stop.IfaceNil
import GoSem.ClaimData
namespace Go.Proofs.YbulkdlbcFmt
open Go.RowKit Go.Extern.Stop Go.Stop Go.Extern

theorem call21 (args : Array Value) (w : World) : (callFunc 21 args).run Ybaf.prog w = ((FmtStop.errorf #[9, 55] #[26] args).run Ybaf.prog w).andThen fun v w' => .ok (.value v) w' :=
  run_callFunc_extern Ybaf.func21 (by kernel_rfl) (by kernel_rfl) (by kernel_rfl) (by kernel_rfl) args w
theorem guard (name : String) (w : World) : (FmtStop.guard name).run Ybaf.prog w = .ok () w := by kernel_rfl
def fmtBytes : Array UInt8 := #[111, 99, 116, 97, 110, 116, 58, 32, 110, 97, 109, 101, 32, 111, 102, 32, 37, 100, 32, 98, 121, 116, 101, 115, 59, 32, 97, 116, 32, 109, 111, 115, 116, 32, 37, 100, 32, 102, 105, 116, 32, 97, 32, 109, 101, 115, 115, 97, 103, 101]
theorem fmt0 : FmtStop.printed? ⟨#[111, 99, 116, 97, 110, 116, 58, 32, 110, 97, 109, 101, 32, 111, 102, 32, 37, 100, 32, 98, 121, 116, 101, 115, 59, 32, 97, 116, 32, 109, 111, 115, 116, 32, 37, 100, 32, 102, 105, 116, 32, 97, 32, 109, 101, 115, 115, 97, 103, 101]⟩ 2 = some [(0, 100, false), (1, 100, false)] := by kernel_rfl
theorem fmt0r (w : World) : (FmtDoors.printed ⟨#[111, 99, 116, 97, 110, 116, 58, 32, 110, 97, 109, 101, 32, 111, 102, 32, 37, 100, 32, 98, 121, 116, 101, 115, 59, 32, 97, 116, 32, 109, 111, 115, 116, 32, 37, 100, 32, 102, 105, 116, 32, 97, 32, 109, 101, 115, 115, 97, 103, 101]⟩ 2).run Ybaf.prog w = .ok [(0, 100, false), (1, 100, false)] w := by kernel_rfl
def shape3 : List UInt8 := [5, 3, 0, 0, 0, 0, 0, 0, 0, 105, 110, 116]
theorem op3_100w (name : String) (x : Int) (w : World) : (FmtStop.operand name true 100 false (.iface 3 (.int .i64 x))).run Ybaf.prog w = .ok (shape3, Go.Extern.Stop.digits 8 (x % 2 ^ 64).toNat) w := by kernel_rfl
theorem ptr61 (w : World) : (FmtStop.ptrTo "errors.errorString").run Ybaf.prog w = .ok 61 w := by kernel_rfl
theorem elem61 (w : World) : (elemOf 61).run Ybaf.prog w = .ok 63 w := by kernel_rfl
theorem ptr57 (w : World) : (FmtStop.ptrTo "fmt.wrapError").run Ybaf.prog w = .ok 57 w := by kernel_rfl
theorem elem57 (w : World) : (elemOf 57).run Ybaf.prog w = .ok 77 w := by kernel_rfl
attribute [local go_sem] call21 guard fmt0 fmt0r op3_100w ptr61 elem61 ptr57 elem57

set_option maxHeartbeats 400000 in
theorem name_long (F : Interp) (sv : Value) (nm : ByteArray) (w : World) (hF : F.answers w.tape) (h : 1024 < nm.size) :
    Calls Ybaf.prog 6 #[sv, .string nm] w fun e w' => (∃ p, e = .returned (.tuple #[.slice none 0 0, .iface 61 p])) ∧ Below w.heap.size w w' := by
  have hF' := answers_open hF
  have hl : (1024 : Int) < (nm.size : Int) := by omega
  go_enter Ybaf.func6, Ybaf.ntmps6
  go_wp2
  go_ret2
  exact ⟨⟨_, rfl⟩, (((Below.refl _ _).alloc (Nat.le_refl _) _).alloc (by simp) _).drew⟩

/-- slices.Clip: the same elements, the capacity cut to the length. -/
theorem clip_any (a : Option Addr) (n c : Nat) (w : World) (hnc : n ≤ c) (_hc : c ≤ maxLen) :
    Calls Ybaf.prog 5 #[.slice a n c] w fun e w' => e = .returned (.slice a n n) ∧ w' = w := by
  unfold maxLen at _hc
  go_enter Ybaf.func5, Ybaf.ntmps5
  go_wp2
  go_ret
  exact ⟨rfl, rfl⟩

theorem owns_base {w : World} {base base' : Nat} {e : TypeId} {size : Nat} {v : Value} {n : Nat} {xs : List Value} (h : w.ownsRow base e size v n xs) (hb : base' ≤ base) : w.ownsRow base' e size v n xs := by
  obtain ⟨h1, h2⟩ := h
  refine ⟨h1, ?_⟩
  rcases h2 with h2 | ⟨g, cap, cur, e1, e2, e3⟩
  · exact .inl h2
  · exact .inr ⟨g, cap, cur, e1, Nat.le_trans hb e2, e3⟩

theorem info5 : (Ybaf.prog.info? 5).map (fun i => (i.zero, i.size, i.bytes)) = some (some (.int .u8 0), 1, 1) := by kernel_rfl

set_option maxHeartbeats 400000 in
/-- binary.BigEndian.AppendUint16 onto a slice without spare capacity: a new row. -/
theorem app16 (ao : Option Addr) (n v : Nat) (hv : v < 65536) (olds : List Value) (w : World) (hnone : ao = none → n = 0) (hlo : olds.length = n)
    (holds : ∀ b, ao = some b → ∀ j u, olds[j]? = some u → w.cell? (b.add j) = some u) (hlim : n ≤ 2097152) :
    Calls Ybaf.prog 15 #[.agg #[], .slice ao n n, .int .u16 v] w fun e w' =>
      ∃ v', e = .returned v' ∧ w'.ownsRow w.heap.size 5 1 v' (n + 2) (olds ++ [.int .u8 ((v : Int) / 256), .int .u8 ((v : Int) % 256)]) ∧ Below w.heap.size w w' := by
  obtain ⟨i0, hi, hz0, hz1, hz2⟩ := info_parts info5
  go_enter Ybaf.func15, Ybaf.ntmps15
  go_wp2_with (at_builtin; refine wpList_append_grows _ rfl _ _ 22 rfl 5 i0 (.int .u8 0) 1 1 Ybaf.underlying22 hi hz0 hz1 hz2 rfl (by decide) ao n n olds rfl ?c6 (by omega) ?c0 _ 2 2 [Value.int .u8 ((v : Int) / 256), Value.int .u8 ((v : Int) % 256)] rfl rfl ?c1 ?c2 (by omega) ?c4 ?c5 ?grow)
  case c6 => intro h; exact ⟨hnone h, hnone h⟩
  case c0 => intro b hb j u hj; exact cell_later (((Below.refl _ w).alloc (Nat.le_refl _) _).alloc (by simp) _) (holds b hb j u hj)
  case c1 =>
    intro j u hj
    match j, hj with
    | 0, hj => simp at hj; subst hj; simp [Addr.add]
    | 1, hj => simp at hj; subst hj; simp [Addr.add]
  case c2 => intro u hu; simp at hu; rcases hu with rfl | rfl <;> rfl
  case c4 => unfold maxLen; omega
  case c5 => omega
  case grow =>
    intro v' w' hown hgr
    go_wp2
    go_ret
    refine ⟨v', rfl, ?_, (((Below.refl _ w).alloc (Nat.le_refl _) _).alloc (by simp) _).grown hgr (by simp; omega) (fun k hk => by cases hk)⟩
    exact owns_base hown (by omega)

set_option maxHeartbeats 400000 in
/-- appendName, the name short enough, onto a slice without spare capacity: a new row: the old bytes, the length's two bytes, the name. -/
theorem name_short (ao : Option Addr) (n : Nat) (nm : ByteArray) (olds : List Value) (w : World) (hnone : ao = none → n = 0) (hlo : olds.length = n)
    (holds : ∀ b, ao = some b → ∀ j u, olds[j]? = some u → w.cell? (b.add j) = some u) (hlim : n ≤ 2097152) (hnm : nm.size ≤ 1024) :
    Calls Ybaf.prog 6 #[.slice ao n n, .string nm] w fun e w' =>
      ∃ v', e = .returned (.tuple #[v', .nilIface]) ∧ w'.ownsRow w.heap.size 5 1 v' (n + 2 + nm.size) (olds ++ [.int .u8 ((nm.size : Int) / 256), .int .u8 ((nm.size : Int) % 256)] ++ Lib.strCells nm) ∧ Below w.heap.size w w' := by
  obtain ⟨i0, hi, hz0, hz1, hz2⟩ := info_parts info5
  have hl : ¬ (1024 : Int) < (nm.size : Int) := by omega
  go_enter Ybaf.func6, Ybaf.ntmps6
  go_wp2_with fail
  refine (app16 ao n nm.size (by omega) olds _ hnone hlo holds hlim).mono ?_
  rintro e w1 ⟨v1, rfl, hown, hb1⟩
  go_wp2_with (at_builtin; refine Lib.wpList_append_own_string _ rfl _ _ 22 9 rfl w.heap.size 5 i0 Ybaf.underlying22 Ybaf.underlying9 hi hz0 hz1 hz2 _ _ _ rfl hown nm rfl (by unfold maxLen; omega) (by omega) (by have := hb1.size; omega) ?_; intro v2 w2 hown2 hgr2 _)
  go_ret2
  exact ⟨v2, rfl, hown2, hb1.grown hgr2 (by have := hb1.size; omega) (fun k hk => (hown.lt k hk).1)⟩
end Go.Proofs.YbulkdlbcFmt
