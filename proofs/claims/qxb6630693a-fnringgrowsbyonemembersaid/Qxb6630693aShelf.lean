/- sort.Ints at this program: the shelf's contract, laid by the kit's tools lay-shelf.mjs and lay-plain.mjs. -/
import Derived.Shelf.Sort.Plain
import Derived.Test.Qxb6630693aProg
namespace Go.Proofs
open Go.Shelf
def Try.lays191_ren : Go.Shelf.Ren := ⟨fun | 191 => 11 | 189 => 12 | 125 => 14 | 257 => 13 | 128 => 24 | 129 => 25 | 294 => 15 | 295 => 16 | 296 => 17 | 297 => 18 | 298 => 19 | 299 => 20 | 216 => 21 | 300 => 22 | 301 => 23 | 328 => 26 | 329 => 27 | 330 => 28 | 331 => 29 | 332 => 30 | 215 => 31 | 343 => 32 | n => n, fun | 28 => 33 | 0 => 0 | 3 => 3 | 46 => 48 | 51 => 58 | 53 => 31 | 4 => 4 | 183 => 51 | 182 => 50 | 131 => 55 | 5 => 5 | 9 => 9 | 218 => 60 | 222 => 64 | 228 => 66 | 229 => 67 | n => n, fun | n => n⟩
theorem Try.lays191 : Go.Proofs.Lays.n191 Try.prog Try.lays191_ren := {
  mixed := by kernel_rfl
  f125 := Try.func14.trans (congrArg some (by kernel_rfl))
  f128 := Try.func24.trans (congrArg some (by kernel_rfl))
  f129 := Try.func25.trans (congrArg some (by kernel_rfl))
  f189 := Try.func12.trans (congrArg some (by kernel_rfl))
  f191 := Try.func11.trans (congrArg some (by kernel_rfl))
  f215 := Try.func31.trans (congrArg some (by kernel_rfl))
  f216 := Try.func21.trans (congrArg some (by kernel_rfl))
  f257 := Try.func13.trans (congrArg some (by kernel_rfl))
  f294 := Try.func15.trans (congrArg some (by kernel_rfl))
  f295 := Try.func16.trans (congrArg some (by kernel_rfl))
  f296 := Try.func17.trans (congrArg some (by kernel_rfl))
  f297 := Try.func18.trans (congrArg some (by kernel_rfl))
  f298 := Try.func19.trans (congrArg some (by kernel_rfl))
  f299 := Try.func20.trans (congrArg some (by kernel_rfl))
  f300 := Try.func22.trans (congrArg some (by kernel_rfl))
  f301 := Try.func23.trans (congrArg some (by kernel_rfl))
  f328 := Try.func26.trans (congrArg some (by kernel_rfl))
  f329 := Try.func27.trans (congrArg some (by kernel_rfl))
  f330 := Try.func28.trans (congrArg some (by kernel_rfl))
  f331 := Try.func29.trans (congrArg some (by kernel_rfl))
  f332 := Try.func30.trans (congrArg some (by kernel_rfl))
  f343 := Try.func32.trans (congrArg some (by kernel_rfl))
  t0 := Try.underlying0
  a0 := Try.isAgg0
  z0 := Try.sizeOf0
  v0 := Try.zeroValue0
  t3 := Try.underlying3
  a3 := Try.isAgg3
  z3 := Try.sizeOf3
  v3 := Try.zeroValue3
  t4 := Try.underlying4
  a4 := Try.isAgg4
  z4 := Try.sizeOf4
  v4 := Try.zeroValue4
  t5 := Try.underlying5
  a5 := Try.isAgg5
  z5 := Try.sizeOf5
  v5 := Try.zeroValue5
  t9 := Try.underlying9
  a9 := Try.isAgg9
  z9 := Try.sizeOf9
  v9 := Try.zeroValue9
  t28 := Try.underlying33
  a28 := Try.isAgg33
  z28 := Try.sizeOf33
  v28 := Try.zeroValue33
  t46 := Try.underlying48
  a46 := Try.isAgg48
  z46 := Try.sizeOf48
  v46 := Try.zeroValue48
  t51 := Try.underlying58
  a51 := Try.isAgg58
  z51 := Try.sizeOf58
  v51 := Try.zeroValue58
  t53 := Try.underlying31
  a53 := Try.isAgg31
  z53 := Try.sizeOf31
  v53 := Try.zeroValue31
  t131 := Try.underlying55
  a131 := Try.isAgg55
  z131 := Try.sizeOf55
  v131 := Try.zeroValue55
  t182 := Try.underlying50
  a182 := Try.isAgg50
  z182 := Try.sizeOf50
  v182 := Try.zeroValue50
  t183 := Try.underlying51
  a183 := Try.isAgg51
  z183 := Try.sizeOf51
  v183 := Try.zeroValue51
  t218 := Try.underlying60
  a218 := Try.isAgg60
  z218 := Try.sizeOf60
  v218 := Try.zeroValue60
  t222 := Try.underlying64
  a222 := Try.isAgg64
  z222 := Try.sizeOf64
  v222 := Try.zeroValue64
  t228 := Try.underlying66
  a228 := Try.isAgg66
  z228 := Try.sizeOf66
  v228 := Try.zeroValue66
  t229 := Try.underlying67
  a229 := Try.isAgg67
  z229 := Try.sizeOf67
  v229 := Try.zeroValue67 }
open Go.Sort Go.RowKit in
theorem Try.sort_Ints (blk off cap : Nat) (zs : List Int) (w : World) (hH : Holds (Value.int .i64) w blk off zs.toArray) (hblk : blk < w.heap.size) (hsz : zs.length < 4611686018427387904) :
    Calls Try.prog 11 #[.slice (some ⟨blk, off, none⟩) zs.length cap] w fun e w' =>
      e = .returned (.tuple #[]) ∧ ∃ n os, w' = grow (putRow (Value.int .i64) (Sort.ahead w n) blk off (zs.mergeSort fun x y => decide (x ≤ y)).toArray) os := Any.sort_Ints Try.lays191 blk off cap zs w hH hblk hsz
end Go.Proofs
