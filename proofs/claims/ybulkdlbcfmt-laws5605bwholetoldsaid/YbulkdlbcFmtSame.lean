/-
  THE WALK of 'zzs5605bsame' (function 7): two slices of one length whose cells hold the same bytes: true; the world has at most drawn.
-/
import Derived.Test.YbulkdlbcFmtRows
import Derived.WalkKit
import Derived.WalkSpells
import Derived.WalkLawsBesides
import Derived.Deep.LoopGhost
import Derived.BigQuiet
import Derived.Deep.QuietTactic
namespace Go.Proofs.YbulkdlbcFmt
open Go.RowKit

/-- Two slices of one length, their elements the same bytes. -/
theorem same_any (a1 a2 : Option Addr) (n c1 c2 : Nat) (f : Nat → Int) (w : World) (hn : n ≤ maxLen)
    (h1 : ∀ i, i < n → ∃ b o, a1 = some ⟨b, o, none⟩ ∧ w.cell? ⟨b, o + i, none⟩ = some (.int .u8 (f i)))
    (h2 : ∀ i, i < n → ∃ b o, a2 = some ⟨b, o, none⟩ ∧ w.cell? ⟨b, o + i, none⟩ = some (.int .u8 (f i))) :
    Calls Ybaf.prog 7 #[.slice a1 n c1, .slice a2 n c2] w fun e w' => e = .returned (.bool true) ∧ ∃ k, w' = w.drewN k := by
  unfold maxLen at hn
  have H1 : Hid (∀ i, i < n → ∃ b o, a1 = some ⟨b, o, none⟩ ∧ w.cell? ⟨b, o + i, none⟩ = some (.int .u8 (f i))) := h1
  have H2 : Hid (∀ i, i < n → ∃ b o, a2 = some ⟨b, o, none⟩ ∧ w.cell? ⟨b, o + i, none⟩ = some (.int .u8 (f i))) := h2
  clear h1 h2
  go_enter Ybaf.func7, Ybaf.ntmps7
  go_wp2
  go_loopg [5] n (fun g i wr => ∃ (k q : Nat), g + k = n ∧ i = .int .i64 k ∧ wr = w.drewN q)
  case atStart => exact ⟨0, 0, by omega, rfl, rfl⟩
  case round =>
    obtain ⟨k, q, hk, rfl, rfl⟩ := hrel
    by_cases hlt : k < n
    · obtain ⟨b, o, rfl, hc⟩ := H1.out k hlt
      obtain ⟨b', o', rfl, hc'⟩ := H2.out k hlt
      have hlt' : (k : Int) < (n : Int) := by omega
      go_wp2
      go_quiet (fail)
      go_wp2
      go_roundg (gk - 1)
      case measure => omega
      case rel => exact ⟨k + 1, _, by omega, by go_num, rfl⟩
    · go_wp2
      go_ret
      exact ⟨rfl, q, rfl⟩
end Go.Proofs.YbulkdlbcFmt
