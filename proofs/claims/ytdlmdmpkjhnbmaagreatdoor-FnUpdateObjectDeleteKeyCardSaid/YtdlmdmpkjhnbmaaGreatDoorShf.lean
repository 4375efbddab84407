/-
  DERIVED: THE SHELF's CONTRACTS AT THIS DUMP, IN PLAIN WORDS (tools/lay-plain.mjs out of 'TryzPart.lean', which tools/lay-shelf.mjs wrote): THE SAME DECLARATIONS UNDER THE SAME NAMES: 'import', 'namespace', 'open', 'def', 'theorem' AND NOTHING ELSE: no command of the shelf's: FOR A HAND-IN. Each laying: the table of numbers ('.._ren') and one theorem, a field a fact of the dump's own or the kernel's comparison; each contract: ONE APPLICATION.
-/
import Derived.Shelf.Sort.Plain
import Derived.Test.YtdlmdmpkjhnbmaaGreatDoorProg
namespace Go.Proofs
open Go.Shelf
def Tryz.lays192_ren : Go.Shelf.Ren := ⟨fun | 192 => 61 | 190 => 72 | 125 => 87 | 258 => 86 | 128 => 107 | 129 => 108 | 302 => 98 | 303 => 99 | 304 => 100 | 305 => 101 | 306 => 102 | 307 => 103 | 308 => 104 | 309 => 105 | 310 => 106 | 333 => 116 | 329 => 117 | 330 => 118 | 334 => 119 | 335 => 120 | 336 => 121 | 344 => 134 | n => n, fun | 31 => 22 | 0 => 0 | 9 => 9 | 3 => 3 | 46 => 175 | 51 => 193 | 53 => 156 | 4 => 4 | 183 => 187 | 182 => 186 | 131 => 28 | 5 => 5 | 218 => 205 | 222 => 209 | 228 => 228 | 229 => 32 | n => n, fun | n => n⟩
theorem Tryz.lays192 : Go.Proofs.Lays.n192 Tryz.prog Tryz.lays192_ren := {
  mixed := by kernel_rfl
  f125 := Tryz.func87.trans (congrArg some (by kernel_rfl))
  f128 := Tryz.func107.trans (congrArg some (by kernel_rfl))
  f129 := Tryz.func108.trans (congrArg some (by kernel_rfl))
  f190 := Tryz.func72.trans (congrArg some (by kernel_rfl))
  f192 := Tryz.func61.trans (congrArg some (by kernel_rfl))
  f258 := Tryz.func86.trans (congrArg some (by kernel_rfl))
  f302 := Tryz.func98.trans (congrArg some (by kernel_rfl))
  f303 := Tryz.func99.trans (congrArg some (by kernel_rfl))
  f304 := Tryz.func100.trans (congrArg some (by kernel_rfl))
  f305 := Tryz.func101.trans (congrArg some (by kernel_rfl))
  f306 := Tryz.func102.trans (congrArg some (by kernel_rfl))
  f307 := Tryz.func103.trans (congrArg some (by kernel_rfl))
  f308 := Tryz.func104.trans (congrArg some (by kernel_rfl))
  f309 := Tryz.func105.trans (congrArg some (by kernel_rfl))
  f310 := Tryz.func106.trans (congrArg some (by kernel_rfl))
  f329 := Tryz.func117.trans (congrArg some (by kernel_rfl))
  f330 := Tryz.func118.trans (congrArg some (by kernel_rfl))
  f333 := Tryz.func116.trans (congrArg some (by kernel_rfl))
  f334 := Tryz.func119.trans (congrArg some (by kernel_rfl))
  f335 := Tryz.func120.trans (congrArg some (by kernel_rfl))
  f336 := Tryz.func121.trans (congrArg some (by kernel_rfl))
  f344 := Tryz.func134.trans (congrArg some (by kernel_rfl))
  t0 := Tryz.underlying0
  a0 := Tryz.isAgg0
  z0 := Tryz.sizeOf0
  v0 := Tryz.zeroValue0
  t3 := Tryz.underlying3
  a3 := Tryz.isAgg3
  z3 := Tryz.sizeOf3
  v3 := Tryz.zeroValue3
  t4 := Tryz.underlying4
  a4 := Tryz.isAgg4
  z4 := Tryz.sizeOf4
  v4 := Tryz.zeroValue4
  t5 := Tryz.underlying5
  a5 := Tryz.isAgg5
  z5 := Tryz.sizeOf5
  v5 := Tryz.zeroValue5
  t9 := Tryz.underlying9
  a9 := Tryz.isAgg9
  z9 := Tryz.sizeOf9
  v9 := Tryz.zeroValue9
  t31 := Tryz.underlying22
  a31 := Tryz.isAgg22
  z31 := Tryz.sizeOf22
  v31 := Tryz.zeroValue22
  t46 := Tryz.underlying175
  a46 := Tryz.isAgg175
  z46 := Tryz.sizeOf175
  v46 := Tryz.zeroValue175
  t51 := Tryz.underlying193
  a51 := Tryz.isAgg193
  z51 := Tryz.sizeOf193
  v51 := Tryz.zeroValue193
  t53 := Tryz.underlying156
  a53 := Tryz.isAgg156
  z53 := Tryz.sizeOf156
  v53 := Tryz.zeroValue156
  t131 := Tryz.underlying28
  a131 := Tryz.isAgg28
  z131 := Tryz.sizeOf28
  v131 := Tryz.zeroValue28
  t182 := Tryz.underlying186
  a182 := Tryz.isAgg186
  z182 := Tryz.sizeOf186
  v182 := Tryz.zeroValue186
  t183 := Tryz.underlying187
  a183 := Tryz.isAgg187
  z183 := Tryz.sizeOf187
  v183 := Tryz.zeroValue187
  t218 := Tryz.underlying205
  a218 := Tryz.isAgg205
  z218 := Tryz.sizeOf205
  v218 := Tryz.zeroValue205
  t222 := Tryz.underlying209
  a222 := Tryz.isAgg209
  z222 := Tryz.sizeOf209
  v222 := Tryz.zeroValue209
  t228 := Tryz.underlying228
  a228 := Tryz.isAgg228
  z228 := Tryz.sizeOf228
  v228 := Tryz.zeroValue228
  t229 := Tryz.underlying32
  a229 := Tryz.isAgg32
  z229 := Tryz.sizeOf32
  v229 := Tryz.zeroValue32 }
open Go.Sort Go.RowKit in
theorem Tryz.sort_Strings (blk off cap : Nat) (ss : List (List UInt8)) (w : World) (hH : Holds encStr w blk off ss.toArray) (hblk : blk < w.heap.size) (hsz : ss.length < 4611686018427387904) :
    Calls Tryz.prog 61 #[.slice (some ⟨blk, off, none⟩) ss.length cap] w fun e w' =>
      e = .returned (.tuple #[]) ∧ ∃ n os, w' = grow (putRow encStr (Sort.ahead w n) blk off (ss.mergeSort fun x y => decide (x ≤ y)).toArray) os := Any.sort_Strings Tryz.lays192 blk off cap ss w hH hblk hsz
end Go.Proofs
