/-
  slices.Sort[[]int,int] AT THIS DUMP: the shelf's contract, laid in plain words (the kit's own tool lay-plain.mjs wrote it for this program).
-/
import Derived.Shelf.Sort.Plain
import Derived.Test.YbulkuywRows
namespace Go.Proofs
open Go.Shelf
def Yba.lays189_ren : Go.Shelf.Ren := ⟨fun | 189 => 27 | 125 => 34 | 257 => 33 | 128 => 46 | 129 => 47 | 294 => 37 | 295 => 38 | 296 => 39 | 297 => 40 | 298 => 41 | 299 => 42 | 216 => 43 | 300 => 44 | 301 => 45 | 328 => 48 | 329 => 49 | 330 => 50 | 331 => 51 | 332 => 52 | 215 => 53 | 343 => 54 | n => n, fun | 28 => 44 | 3 => 3 | 46 => 85 | 0 => 0 | 51 => 98 | 53 => 22 | 4 => 4 | 183 => 90 | 182 => 89 | 131 => 95 | 5 => 5 | 9 => 9 | 218 => 100 | 222 => 104 | 228 => 106 | 229 => 107 | n => n, fun | n => n⟩
theorem Yba.lays189 : Go.Proofs.Lays.n189 Yba.prog Yba.lays189_ren := {
  mixed := by kernel_rfl
  f125 := Yba.func34.trans (congrArg some (by kernel_rfl))
  f128 := Yba.func46.trans (congrArg some (by kernel_rfl))
  f129 := Yba.func47.trans (congrArg some (by kernel_rfl))
  f189 := Yba.func27.trans (congrArg some (by kernel_rfl))
  f215 := Yba.func53.trans (congrArg some (by kernel_rfl))
  f216 := Yba.func43.trans (congrArg some (by kernel_rfl))
  f257 := Yba.func33.trans (congrArg some (by kernel_rfl))
  f294 := Yba.func37.trans (congrArg some (by kernel_rfl))
  f295 := Yba.func38.trans (congrArg some (by kernel_rfl))
  f296 := Yba.func39.trans (congrArg some (by kernel_rfl))
  f297 := Yba.func40.trans (congrArg some (by kernel_rfl))
  f298 := Yba.func41.trans (congrArg some (by kernel_rfl))
  f299 := Yba.func42.trans (congrArg some (by kernel_rfl))
  f300 := Yba.func44.trans (congrArg some (by kernel_rfl))
  f301 := Yba.func45.trans (congrArg some (by kernel_rfl))
  f328 := Yba.func48.trans (congrArg some (by kernel_rfl))
  f329 := Yba.func49.trans (congrArg some (by kernel_rfl))
  f330 := Yba.func50.trans (congrArg some (by kernel_rfl))
  f331 := Yba.func51.trans (congrArg some (by kernel_rfl))
  f332 := Yba.func52.trans (congrArg some (by kernel_rfl))
  f343 := Yba.func54.trans (congrArg some (by kernel_rfl))
  t0 := Yba.underlying0
  a0 := Yba.isAgg0
  z0 := Yba.sizeOf0
  v0 := Yba.zeroValue0
  t3 := Yba.underlying3
  a3 := Yba.isAgg3
  z3 := Yba.sizeOf3
  v3 := Yba.zeroValue3
  t4 := Yba.underlying4
  a4 := Yba.isAgg4
  z4 := Yba.sizeOf4
  v4 := Yba.zeroValue4
  t5 := Yba.underlying5
  a5 := Yba.isAgg5
  z5 := Yba.sizeOf5
  v5 := Yba.zeroValue5
  t9 := Yba.underlying9
  a9 := Yba.isAgg9
  z9 := Yba.sizeOf9
  v9 := Yba.zeroValue9
  t28 := Yba.underlying44
  a28 := Yba.isAgg44
  z28 := Yba.sizeOf44
  v28 := Yba.zeroValue44
  t46 := Yba.underlying85
  a46 := Yba.isAgg85
  z46 := Yba.sizeOf85
  v46 := Yba.zeroValue85
  t51 := Yba.underlying98
  a51 := Yba.isAgg98
  z51 := Yba.sizeOf98
  v51 := Yba.zeroValue98
  t53 := Yba.underlying22
  a53 := Yba.isAgg22
  z53 := Yba.sizeOf22
  v53 := Yba.zeroValue22
  t131 := Yba.underlying95
  a131 := Yba.isAgg95
  z131 := Yba.sizeOf95
  v131 := Yba.zeroValue95
  t182 := Yba.underlying89
  a182 := Yba.isAgg89
  z182 := Yba.sizeOf89
  v182 := Yba.zeroValue89
  t183 := Yba.underlying90
  a183 := Yba.isAgg90
  z183 := Yba.sizeOf90
  v183 := Yba.zeroValue90
  t218 := Yba.underlying100
  a218 := Yba.isAgg100
  z218 := Yba.sizeOf100
  v218 := Yba.zeroValue100
  t222 := Yba.underlying104
  a222 := Yba.isAgg104
  z222 := Yba.sizeOf104
  v222 := Yba.zeroValue104
  t228 := Yba.underlying106
  a228 := Yba.isAgg106
  z228 := Yba.sizeOf106
  v228 := Yba.zeroValue106
  t229 := Yba.underlying107
  a229 := Yba.isAgg107
  z229 := Yba.sizeOf107
  v229 := Yba.zeroValue107 }
open Go.Sort Go.RowKit in
theorem Yba.slices_Sort_int (blk off cap : Nat) (zs : List Int) (w : World) (hH : Holds (Value.int .i64) w blk off zs.toArray) (hblk : blk < w.heap.size) (hsz : zs.length < 4611686018427387904) :
    Calls Yba.prog 27 #[.slice (some ⟨blk, off, none⟩) zs.length cap] w fun e w' =>
      e = .returned (.tuple #[]) ∧ ∃ n os, w' = grow (putRow (Value.int .i64) (Sort.ahead w n) blk off (zs.mergeSort fun x y => decide (x ≤ y)).toArray) os := Any.slices_Sort_int Yba.lays189 blk off cap zs w hH hblk hsz
end Go.Proofs
