/-
  DERIVED: THE SHELF's CONTRACTS AT THIS DUMP, IN PLAIN WORDS (tools/lay-plain.mjs out of 'TryShelf.lean', which tools/lay-shelf.mjs wrote): THE SAME DECLARATIONS UNDER THE SAME NAMES: 'import', 'namespace', 'open', 'def', 'theorem' AND NOTHING ELSE: no command of the shelf's: FOR A HAND-IN. Each laying: the table of numbers ('.._ren') and one theorem, a field a fact of the dump's own or the kernel's comparison; each contract: ONE APPLICATION.
-/
import Derived.Shelf.Sort.Plain
import Derived.Test.Qxb6615739aProg
namespace Go.Proofs
open Go.Shelf
def Try.lays189_ren : Go.Shelf.Ren := ⟨fun | 189 => 31 | 125 => 40 | 257 => 39 | 128 => 58 | 129 => 59 | 294 => 49 | 295 => 50 | 296 => 51 | 297 => 52 | 298 => 53 | 299 => 54 | 216 => 55 | 300 => 56 | 301 => 57 | 328 => 66 | 329 => 67 | 330 => 68 | 331 => 69 | 332 => 70 | 215 => 71 | 343 => 74 | n => n, fun | 28 => 23 | 3 => 3 | 46 => 85 | 0 => 0 | 51 => 86 | 53 => 22 | 4 => 4 | 183 => 98 | 182 => 97 | 131 => 28 | 5 => 5 | 9 => 9 | 218 => 113 | 222 => 116 | 228 => 119 | 229 => 120 | n => n, fun | n => n⟩
theorem Try.lays189 : Go.Proofs.Lays.n189 Try.prog Try.lays189_ren := {
  mixed := by kernel_rfl
  f125 := Try.func40.trans (congrArg some (by kernel_rfl))
  f128 := Try.func58.trans (congrArg some (by kernel_rfl))
  f129 := Try.func59.trans (congrArg some (by kernel_rfl))
  f189 := Try.func31.trans (congrArg some (by kernel_rfl))
  f215 := Try.func71.trans (congrArg some (by kernel_rfl))
  f216 := Try.func55.trans (congrArg some (by kernel_rfl))
  f257 := Try.func39.trans (congrArg some (by kernel_rfl))
  f294 := Try.func49.trans (congrArg some (by kernel_rfl))
  f295 := Try.func50.trans (congrArg some (by kernel_rfl))
  f296 := Try.func51.trans (congrArg some (by kernel_rfl))
  f297 := Try.func52.trans (congrArg some (by kernel_rfl))
  f298 := Try.func53.trans (congrArg some (by kernel_rfl))
  f299 := Try.func54.trans (congrArg some (by kernel_rfl))
  f300 := Try.func56.trans (congrArg some (by kernel_rfl))
  f301 := Try.func57.trans (congrArg some (by kernel_rfl))
  f328 := Try.func66.trans (congrArg some (by kernel_rfl))
  f329 := Try.func67.trans (congrArg some (by kernel_rfl))
  f330 := Try.func68.trans (congrArg some (by kernel_rfl))
  f331 := Try.func69.trans (congrArg some (by kernel_rfl))
  f332 := Try.func70.trans (congrArg some (by kernel_rfl))
  f343 := Try.func74.trans (congrArg some (by kernel_rfl))
  t0 := Try.underlying0
  a0 := Try.isAgg0
  z0 := Try.sizeOf0
  v0 := Try.zeroValue0
  t3 := Try.underlying3
  a3 := Try.isAgg3
  z3 := Try.sizeOf3
  v3 := Try.zeroValue3
  t4 := Try.underlying4
  a4 := Try.isAgg4
  z4 := Try.sizeOf4
  v4 := Try.zeroValue4
  t5 := Try.underlying5
  a5 := Try.isAgg5
  z5 := Try.sizeOf5
  v5 := Try.zeroValue5
  t9 := Try.underlying9
  a9 := Try.isAgg9
  z9 := Try.sizeOf9
  v9 := Try.zeroValue9
  t28 := Try.underlying23
  a28 := Try.isAgg23
  z28 := Try.sizeOf23
  v28 := Try.zeroValue23
  t46 := Try.underlying85
  a46 := Try.isAgg85
  z46 := Try.sizeOf85
  v46 := Try.zeroValue85
  t51 := Try.underlying86
  a51 := Try.isAgg86
  z51 := Try.sizeOf86
  v51 := Try.zeroValue86
  t53 := Try.underlying22
  a53 := Try.isAgg22
  z53 := Try.sizeOf22
  v53 := Try.zeroValue22
  t131 := Try.underlying28
  a131 := Try.isAgg28
  z131 := Try.sizeOf28
  v131 := Try.zeroValue28
  t182 := Try.underlying97
  a182 := Try.isAgg97
  z182 := Try.sizeOf97
  v182 := Try.zeroValue97
  t183 := Try.underlying98
  a183 := Try.isAgg98
  z183 := Try.sizeOf98
  v183 := Try.zeroValue98
  t218 := Try.underlying113
  a218 := Try.isAgg113
  z218 := Try.sizeOf113
  v218 := Try.zeroValue113
  t222 := Try.underlying116
  a222 := Try.isAgg116
  z222 := Try.sizeOf116
  v222 := Try.zeroValue116
  t228 := Try.underlying119
  a228 := Try.isAgg119
  z228 := Try.sizeOf119
  v228 := Try.zeroValue119
  t229 := Try.underlying120
  a229 := Try.isAgg120
  z229 := Try.sizeOf120
  v229 := Try.zeroValue120 }
open Go.Sort Go.RowKit in
theorem Try.slices_Sort_int (blk off cap : Nat) (zs : List Int) (w : World) (hH : Holds (Value.int .i64) w blk off zs.toArray) (hblk : blk < w.heap.size) (hsz : zs.length < 4611686018427387904) :
    Calls Try.prog 31 #[.slice (some ⟨blk, off, none⟩) zs.length cap] w fun e w' =>
      e = .returned (.tuple #[]) ∧ ∃ n os, w' = grow (putRow (Value.int .i64) (Sort.ahead w n) blk off (zs.mergeSort fun x y => decide (x ≤ y)).toArray) os := Any.slices_Sort_int Try.lays189 blk off cap zs w hH hblk hsz
end Go.Proofs
