/- slices.Sort at []int laid at this program (written by the kit's lay-plain tool for this program). -/
import Derived.Shelf.Sort.Plain
import Derived.Test.YbulkbhpqDoorProg
namespace Go.Proofs.YbulkbhpqDoor
open Go.Shelf
def sort189_ren : Go.Shelf.Ren := ⟨fun | 189 => 4 | 125 => 8 | 257 => 7 | 128 => 21 | 129 => 22 | 294 => 12 | 295 => 13 | 296 => 14 | 297 => 15 | 298 => 16 | 299 => 17 | 216 => 18 | 300 => 19 | 301 => 20 | 328 => 25 | 329 => 26 | 330 => 27 | 331 => 28 | 332 => 29 | 215 => 30 | 343 => 31 | n => n, fun | 28 => 31 | 3 => 3 | 46 => 79 | 0 => 0 | 51 => 94 | 53 => 63 | 4 => 4 | 183 => 86 | 182 => 85 | 131 => 91 | 5 => 5 | 9 => 9 | 218 => 99 | 222 => 103 | 228 => 106 | 229 => 107 | n => n, fun | n => n⟩
theorem sort189 : Go.Proofs.Lays.n189 Ybad.prog sort189_ren := {
  mixed := by kernel_rfl
  f125 := Ybad.func8.trans (congrArg some (by kernel_rfl))
  f128 := Ybad.func21.trans (congrArg some (by kernel_rfl))
  f129 := Ybad.func22.trans (congrArg some (by kernel_rfl))
  f189 := Ybad.func4.trans (congrArg some (by kernel_rfl))
  f215 := Ybad.func30.trans (congrArg some (by kernel_rfl))
  f216 := Ybad.func18.trans (congrArg some (by kernel_rfl))
  f257 := Ybad.func7.trans (congrArg some (by kernel_rfl))
  f294 := Ybad.func12.trans (congrArg some (by kernel_rfl))
  f295 := Ybad.func13.trans (congrArg some (by kernel_rfl))
  f296 := Ybad.func14.trans (congrArg some (by kernel_rfl))
  f297 := Ybad.func15.trans (congrArg some (by kernel_rfl))
  f298 := Ybad.func16.trans (congrArg some (by kernel_rfl))
  f299 := Ybad.func17.trans (congrArg some (by kernel_rfl))
  f300 := Ybad.func19.trans (congrArg some (by kernel_rfl))
  f301 := Ybad.func20.trans (congrArg some (by kernel_rfl))
  f328 := Ybad.func25.trans (congrArg some (by kernel_rfl))
  f329 := Ybad.func26.trans (congrArg some (by kernel_rfl))
  f330 := Ybad.func27.trans (congrArg some (by kernel_rfl))
  f331 := Ybad.func28.trans (congrArg some (by kernel_rfl))
  f332 := Ybad.func29.trans (congrArg some (by kernel_rfl))
  f343 := Ybad.func31.trans (congrArg some (by kernel_rfl))
  t0 := Ybad.underlying0
  a0 := Ybad.isAgg0
  z0 := Ybad.sizeOf0
  v0 := Ybad.zeroValue0
  t3 := Ybad.underlying3
  a3 := Ybad.isAgg3
  z3 := Ybad.sizeOf3
  v3 := Ybad.zeroValue3
  t4 := Ybad.underlying4
  a4 := Ybad.isAgg4
  z4 := Ybad.sizeOf4
  v4 := Ybad.zeroValue4
  t5 := Ybad.underlying5
  a5 := Ybad.isAgg5
  z5 := Ybad.sizeOf5
  v5 := Ybad.zeroValue5
  t9 := Ybad.underlying9
  a9 := Ybad.isAgg9
  z9 := Ybad.sizeOf9
  v9 := Ybad.zeroValue9
  t28 := Ybad.underlying31
  a28 := Ybad.isAgg31
  z28 := Ybad.sizeOf31
  v28 := Ybad.zeroValue31
  t46 := Ybad.underlying79
  a46 := Ybad.isAgg79
  z46 := Ybad.sizeOf79
  v46 := Ybad.zeroValue79
  t51 := Ybad.underlying94
  a51 := Ybad.isAgg94
  z51 := Ybad.sizeOf94
  v51 := Ybad.zeroValue94
  t53 := Ybad.underlying63
  a53 := Ybad.isAgg63
  z53 := Ybad.sizeOf63
  v53 := Ybad.zeroValue63
  t131 := Ybad.underlying91
  a131 := Ybad.isAgg91
  z131 := Ybad.sizeOf91
  v131 := Ybad.zeroValue91
  t182 := Ybad.underlying85
  a182 := Ybad.isAgg85
  z182 := Ybad.sizeOf85
  v182 := Ybad.zeroValue85
  t183 := Ybad.underlying86
  a183 := Ybad.isAgg86
  z183 := Ybad.sizeOf86
  v183 := Ybad.zeroValue86
  t218 := Ybad.underlying99
  a218 := Ybad.isAgg99
  z218 := Ybad.sizeOf99
  v218 := Ybad.zeroValue99
  t222 := Ybad.underlying103
  a222 := Ybad.isAgg103
  z222 := Ybad.sizeOf103
  v222 := Ybad.zeroValue103
  t228 := Ybad.underlying106
  a228 := Ybad.isAgg106
  z228 := Ybad.sizeOf106
  v228 := Ybad.zeroValue106
  t229 := Ybad.underlying107
  a229 := Ybad.isAgg107
  z229 := Ybad.sizeOf107
  v229 := Ybad.zeroValue107 }
open Go.Sort Go.RowKit in
theorem slices_Sort_int (blk off cap : Nat) (zs : List Int) (w : World) (hH : Holds (Value.int .i64) w blk off zs.toArray) (hblk : blk < w.heap.size) (hsz : zs.length < 4611686018427387904) :
    Calls Ybad.prog 4 #[.slice (some ⟨blk, off, none⟩) zs.length cap] w fun e w' =>
      e = .returned (.tuple #[]) ∧ ∃ n os, w' = grow (putRow (Value.int .i64) (Sort.ahead w n) blk off (zs.mergeSort fun x y => decide (x ≤ y)).toArray) os := Any.slices_Sort_int sort189 blk off cap zs w hH hblk hsz
end Go.Proofs.YbulkbhpqDoor
