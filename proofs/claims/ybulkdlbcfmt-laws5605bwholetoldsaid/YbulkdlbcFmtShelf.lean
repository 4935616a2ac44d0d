/-
  LAID BY THE SHELF's OWN TOOLS (lay-shelf, lay-plain) AT THIS SEAT's DUMP: the contract of strings.Repeat, one application of the library's theorem.
-/
import Derived.Shelf.Strings.Repeat
import Derived.Test.YbulkdlbcFmtProg
namespace Go.Proofs
open Go.Shelf
def Ybaf.lays105_ren : Go.Shelf.Ren := ⟨fun | 105 => 4 | 212 => 8 | 99 => 9 | 165 => 10 | 166 => 11 | 170 => 12 | 169 => 13 | 263 => 16 | 264 => 17 | 206 => 18 | 240 => 19 | 241 => 20 | 276 => 23 | 277 => 24 | n => n, fun | 9 => 9 | 3 => 3 | 4 => 4 | 20 => 20 | 0 => 0 | 46 => 31 | 109 => 32 | 5 => 5 | 72 => 37 | 76 => 39 | 51 => 48 | 146 => 49 | 53 => 51 | 148 => 52 | 70 => 35 | 37 => 22 | 75 => 26 | 127 => 54 | 164 => 58 | 80 => 42 | n => n, fun | n => n⟩
theorem Ybaf.lays105 : Go.Proofs.Lays.n105 Ybaf.prog Ybaf.lays105_ren := {
  mixed := by kernel_rfl
  f99 := Ybaf.func9.trans (congrArg some (by kernel_rfl))
  f105 := Ybaf.func4.trans (congrArg some (by kernel_rfl))
  f165 := Ybaf.func10.trans (congrArg some (by kernel_rfl))
  f166 := Ybaf.func11.trans (congrArg some (by kernel_rfl))
  f169 := Ybaf.func13.trans (congrArg some (by kernel_rfl))
  f170 := Ybaf.func12.trans (congrArg some (by kernel_rfl))
  f206 := Ybaf.func18.trans (congrArg some (by kernel_rfl))
  f212 := Ybaf.func8.trans (congrArg some (by kernel_rfl))
  f240 := Ybaf.func19.trans (congrArg some (by kernel_rfl))
  f241 := Ybaf.func20.trans (congrArg some (by kernel_rfl))
  f263 := Ybaf.func16.trans (congrArg some (by kernel_rfl))
  f264 := Ybaf.func17.trans (congrArg some (by kernel_rfl))
  f276 := Ybaf.func23.trans (congrArg some (by kernel_rfl))
  f277 := Ybaf.func24.trans (congrArg some (by kernel_rfl))
  t0 := Ybaf.underlying0
  a0 := Ybaf.isAgg0
  z0 := Ybaf.sizeOf0
  v0 := Ybaf.zeroValue0
  t3 := Ybaf.underlying3
  a3 := Ybaf.isAgg3
  z3 := Ybaf.sizeOf3
  v3 := Ybaf.zeroValue3
  t4 := Ybaf.underlying4
  a4 := Ybaf.isAgg4
  z4 := Ybaf.sizeOf4
  v4 := Ybaf.zeroValue4
  t5 := Ybaf.underlying5
  a5 := Ybaf.isAgg5
  z5 := Ybaf.sizeOf5
  v5 := Ybaf.zeroValue5
  t9 := Ybaf.underlying9
  a9 := Ybaf.isAgg9
  z9 := Ybaf.sizeOf9
  v9 := Ybaf.zeroValue9
  t20 := Ybaf.underlying20
  a20 := Ybaf.isAgg20
  z20 := Ybaf.sizeOf20
  v20 := Ybaf.zeroValue20
  t37 := Ybaf.underlying22
  a37 := Ybaf.isAgg22
  z37 := Ybaf.sizeOf22
  v37 := Ybaf.zeroValue22
  t46 := Ybaf.underlying31
  a46 := Ybaf.isAgg31
  z46 := Ybaf.sizeOf31
  v46 := Ybaf.zeroValue31
  t51 := Ybaf.underlying48
  a51 := Ybaf.isAgg48
  z51 := Ybaf.sizeOf48
  v51 := Ybaf.zeroValue48
  t53 := Ybaf.underlying51
  a53 := Ybaf.isAgg51
  z53 := Ybaf.sizeOf51
  v53 := Ybaf.zeroValue51
  t70 := Ybaf.underlying35
  a70 := Ybaf.isAgg35
  z70 := Ybaf.sizeOf35
  v70 := Ybaf.zeroValue35
  t72 := Ybaf.underlying37
  a72 := Ybaf.isAgg37
  z72 := Ybaf.sizeOf37
  v72 := Ybaf.zeroValue37
  t75 := Ybaf.underlying26
  a75 := Ybaf.isAgg26
  z75 := Ybaf.sizeOf26
  v75 := Ybaf.zeroValue26
  t76 := Ybaf.underlying39
  a76 := Ybaf.isAgg39
  z76 := Ybaf.sizeOf39
  v76 := Ybaf.zeroValue39
  t109 := Ybaf.underlying32
  a109 := Ybaf.isAgg32
  z109 := Ybaf.sizeOf32
  v109 := Ybaf.zeroValue32
  t127 := Ybaf.underlying54
  a127 := Ybaf.isAgg54
  z127 := Ybaf.sizeOf54
  v127 := Ybaf.zeroValue54
  t146 := Ybaf.underlying49
  a146 := Ybaf.isAgg49
  z146 := Ybaf.sizeOf49
  v146 := Ybaf.zeroValue49
  t148 := Ybaf.underlying52
  a148 := Ybaf.isAgg52
  z148 := Ybaf.sizeOf52
  v148 := Ybaf.zeroValue52
  t164 := Ybaf.underlying58
  a164 := Ybaf.isAgg58
  z164 := Ybaf.sizeOf58
  v164 := Ybaf.zeroValue58 }
theorem Ybaf.Builder_Extra_105 : Builder.Extra Ybaf.prog Ybaf.lays105_ren := {
  sizeBuilder := by kernel_rfl
  liesBuilder := by kernel_rfl
  t5 := Ybaf.underlying5
  a5 := Ybaf.isAgg5
  z5 := Ybaf.sizeOf5
  v5 := Ybaf.zeroValue5
  infoByte := by kernel_rfl
  cellsByte := by kernel_rfl
  sizeByte := by kernel_rfl
  neB5 := by decide }
open Go.RowKit Go.Lib in
/-- **strings.Repeat: count ≥ 0, the result within one allocation: count copies of s.** (LAID: no walk: one application.) -/
theorem Ybaf.strings_Repeat (s : ByteArray) (c : Nat) (w : World) (hc : c ≤ 9223372036854775807) (hlen : s.size * c ≤ 140737488355328) :
    Calls Ybaf.prog 4 #[.string s, .int .i64 c] w fun e w' => e = .returned (.string ⟨(Lib.repeatL s.data.toList c).toArray⟩) ∧ Below w.heap.size w w' := Any.strings_Repeat Ybaf.lays105 Ybaf.Builder_Extra_105 s c w hc hlen
end Go.Proofs
