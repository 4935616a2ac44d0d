/-
  LAID BY THE SHELF's OWN TOOLS (lay-shelf, lay-plain) AT THIS SEAT's DUMP: the contract of slices.Sort at a slice of strings, one application of the library's theorem.
-/
import Derived.Shelf.Sort.Plain
import Derived.Shelf.Slices.In.SortNone
import Derived.Test.YbulkdlbcDoorProg
namespace Go.Proofs
open Go.Shelf
def Ybad.lays190_ren : Go.Shelf.Ren := ⟨fun | 190 => 19 | 125 => 21 | 258 => 20 | 128 => 31 | 129 => 32 | 302 => 22 | 303 => 23 | 304 => 24 | 305 => 25 | 306 => 26 | 307 => 27 | 308 => 28 | 309 => 29 | 310 => 30 | 333 => 33 | 329 => 34 | 330 => 35 | 334 => 36 | 335 => 37 | 336 => 38 | 344 => 39 | n => n, fun | 31 => 91 | 9 => 9 | 3 => 3 | 46 => 112 | 0 => 0 | 51 => 63 | 53 => 23 | 4 => 4 | 183 => 119 | 182 => 118 | 131 => 124 | 5 => 5 | 218 => 128 | 222 => 132 | 228 => 135 | 229 => 136 | n => n, fun | n => n⟩
theorem Ybad.lays190 : Go.Proofs.Lays.n190 Ybad.prog Ybad.lays190_ren := {
  mixed := by kernel_rfl
  f125 := Ybad.func21.trans (congrArg some (by kernel_rfl))
  f128 := Ybad.func31.trans (congrArg some (by kernel_rfl))
  f129 := Ybad.func32.trans (congrArg some (by kernel_rfl))
  f190 := Ybad.func19.trans (congrArg some (by kernel_rfl))
  f258 := Ybad.func20.trans (congrArg some (by kernel_rfl))
  f302 := Ybad.func22.trans (congrArg some (by kernel_rfl))
  f303 := Ybad.func23.trans (congrArg some (by kernel_rfl))
  f304 := Ybad.func24.trans (congrArg some (by kernel_rfl))
  f305 := Ybad.func25.trans (congrArg some (by kernel_rfl))
  f306 := Ybad.func26.trans (congrArg some (by kernel_rfl))
  f307 := Ybad.func27.trans (congrArg some (by kernel_rfl))
  f308 := Ybad.func28.trans (congrArg some (by kernel_rfl))
  f309 := Ybad.func29.trans (congrArg some (by kernel_rfl))
  f310 := Ybad.func30.trans (congrArg some (by kernel_rfl))
  f329 := Ybad.func34.trans (congrArg some (by kernel_rfl))
  f330 := Ybad.func35.trans (congrArg some (by kernel_rfl))
  f333 := Ybad.func33.trans (congrArg some (by kernel_rfl))
  f334 := Ybad.func36.trans (congrArg some (by kernel_rfl))
  f335 := Ybad.func37.trans (congrArg some (by kernel_rfl))
  f336 := Ybad.func38.trans (congrArg some (by kernel_rfl))
  f344 := Ybad.func39.trans (congrArg some (by kernel_rfl))
  t0 := Ybad.underlying0
  a0 := Ybad.isAgg0
  z0 := Ybad.sizeOf0
  v0 := Ybad.zeroValue0
  t3 := Ybad.underlying3
  a3 := Ybad.isAgg3
  z3 := Ybad.sizeOf3
  v3 := Ybad.zeroValue3
  t4 := Ybad.underlying4
  a4 := Ybad.isAgg4
  z4 := Ybad.sizeOf4
  v4 := Ybad.zeroValue4
  t5 := Ybad.underlying5
  a5 := Ybad.isAgg5
  z5 := Ybad.sizeOf5
  v5 := Ybad.zeroValue5
  t9 := Ybad.underlying9
  a9 := Ybad.isAgg9
  z9 := Ybad.sizeOf9
  v9 := Ybad.zeroValue9
  t31 := Ybad.underlying91
  a31 := Ybad.isAgg91
  z31 := Ybad.sizeOf91
  v31 := Ybad.zeroValue91
  t46 := Ybad.underlying112
  a46 := Ybad.isAgg112
  z46 := Ybad.sizeOf112
  v46 := Ybad.zeroValue112
  t51 := Ybad.underlying63
  a51 := Ybad.isAgg63
  z51 := Ybad.sizeOf63
  v51 := Ybad.zeroValue63
  t53 := Ybad.underlying23
  a53 := Ybad.isAgg23
  z53 := Ybad.sizeOf23
  v53 := Ybad.zeroValue23
  t131 := Ybad.underlying124
  a131 := Ybad.isAgg124
  z131 := Ybad.sizeOf124
  v131 := Ybad.zeroValue124
  t182 := Ybad.underlying118
  a182 := Ybad.isAgg118
  z182 := Ybad.sizeOf118
  v182 := Ybad.zeroValue118
  t183 := Ybad.underlying119
  a183 := Ybad.isAgg119
  z183 := Ybad.sizeOf119
  v183 := Ybad.zeroValue119
  t218 := Ybad.underlying128
  a218 := Ybad.isAgg128
  z218 := Ybad.sizeOf128
  v218 := Ybad.zeroValue128
  t222 := Ybad.underlying132
  a222 := Ybad.isAgg132
  z222 := Ybad.sizeOf132
  v222 := Ybad.zeroValue132
  t228 := Ybad.underlying135
  a228 := Ybad.isAgg135
  z228 := Ybad.sizeOf135
  v228 := Ybad.zeroValue135
  t229 := Ybad.underlying136
  a229 := Ybad.isAgg136
  z229 := Ybad.sizeOf136
  v229 := Ybad.zeroValue136 }
open Go.Sort Go.RowKit in
theorem Ybad.slices_Sort_string (blk off cap : Nat) (ss : List (List UInt8)) (w : World) (hH : Holds encStr w blk off ss.toArray) (hblk : blk < w.heap.size) (hsz : ss.length < 4611686018427387904) :
    Calls Ybad.prog 19 #[.slice (some ⟨blk, off, none⟩) ss.length cap] w fun e w' =>
      e = .returned (.tuple #[]) ∧ ∃ n os, w' = grow (putRow encStr (Sort.ahead w n) blk off (ss.mergeSort fun x y => decide (x ≤ y)).toArray) os := Any.slices_Sort_string Ybad.lays190 blk off cap ss w hH hblk hsz
open Go.RowKit Go.Sort in
/-- .. and plain. (LAID: no walk: one application.) -/
theorem Ybad.slices_Sort_string_none (p : Option Addr) (cap : Nat) (w : World) :
    Calls Ybad.prog 19 #[.slice p 0 cap] w fun e w' => e = .returned (.tuple #[]) ∧ w' = w := Any.slices_Sort_string_none Ybad.lays190 p cap w
end Go.Proofs
