/-
  DERIVED: THE SHELF's CONTRACTS AT THIS DUMP, IN PLAIN WORDS (tools/lay-plain.mjs out of 'Qxb6614755aShelf.lean', which tools/lay-shelf.mjs wrote): THE SAME DECLARATIONS UNDER THE SAME NAMES: 'import', 'namespace', 'open', 'def', 'theorem' AND NOTHING ELSE: no command of the shelf's: FOR A HAND-IN. Each laying: the table of numbers ('.._ren') and one theorem, a field a fact of the dump's own or the kernel's comparison; each contract: ONE APPLICATION.
-/
import Derived.Shelf.Sort.Plain
import Derived.Test.Qxb6614755aProg
namespace Go.Proofs
open Go.Shelf
def Try.lays192_ren : Go.Shelf.Ren := ⟨fun | 192 => 62 | 190 => 68 | 125 => 72 | 258 => 74 | 128 => 84 | 129 => 85 | 302 => 94 | 303 => 95 | 304 => 96 | 305 => 97 | 306 => 98 | 307 => 99 | 308 => 100 | 309 => 101 | 310 => 102 | 333 => 108 | 329 => 109 | 330 => 110 | 334 => 111 | 335 => 112 | 336 => 113 | 344 => 115 | n => n, fun | 31 => 22 | 0 => 0 | 9 => 9 | 3 => 3 | 46 => 124 | 51 => 133 | 53 => 135 | 4 => 4 | 183 => 146 | 182 => 145 | 131 => 142 | 5 => 5 | 218 => 158 | 222 => 156 | 228 => 164 | 229 => 162 | n => n, fun | n => n⟩
theorem Try.lays192 : Go.Proofs.Lays.n192 Try.prog Try.lays192_ren := {
  mixed := by kernel_rfl
  f125 := Try.func72.trans (congrArg some (by kernel_rfl))
  f128 := Try.func84.trans (congrArg some (by kernel_rfl))
  f129 := Try.func85.trans (congrArg some (by kernel_rfl))
  f190 := Try.func68.trans (congrArg some (by kernel_rfl))
  f192 := Try.func62.trans (congrArg some (by kernel_rfl))
  f258 := Try.func74.trans (congrArg some (by kernel_rfl))
  f302 := Try.func94.trans (congrArg some (by kernel_rfl))
  f303 := Try.func95.trans (congrArg some (by kernel_rfl))
  f304 := Try.func96.trans (congrArg some (by kernel_rfl))
  f305 := Try.func97.trans (congrArg some (by kernel_rfl))
  f306 := Try.func98.trans (congrArg some (by kernel_rfl))
  f307 := Try.func99.trans (congrArg some (by kernel_rfl))
  f308 := Try.func100.trans (congrArg some (by kernel_rfl))
  f309 := Try.func101.trans (congrArg some (by kernel_rfl))
  f310 := Try.func102.trans (congrArg some (by kernel_rfl))
  f329 := Try.func109.trans (congrArg some (by kernel_rfl))
  f330 := Try.func110.trans (congrArg some (by kernel_rfl))
  f333 := Try.func108.trans (congrArg some (by kernel_rfl))
  f334 := Try.func111.trans (congrArg some (by kernel_rfl))
  f335 := Try.func112.trans (congrArg some (by kernel_rfl))
  f336 := Try.func113.trans (congrArg some (by kernel_rfl))
  f344 := Try.func115.trans (congrArg some (by kernel_rfl))
  t0 := Try.underlying0
  a0 := Try.isAgg0
  z0 := Try.sizeOf0
  v0 := Try.zeroValue0
  t3 := Try.underlying3
  a3 := Try.isAgg3
  z3 := Try.sizeOf3
  v3 := Try.zeroValue3
  t4 := Try.underlying4
  a4 := Try.isAgg4
  z4 := Try.sizeOf4
  v4 := Try.zeroValue4
  t5 := Try.underlying5
  a5 := Try.isAgg5
  z5 := Try.sizeOf5
  v5 := Try.zeroValue5
  t9 := Try.underlying9
  a9 := Try.isAgg9
  z9 := Try.sizeOf9
  v9 := Try.zeroValue9
  t31 := Try.underlying22
  a31 := Try.isAgg22
  z31 := Try.sizeOf22
  v31 := Try.zeroValue22
  t46 := Try.underlying124
  a46 := Try.isAgg124
  z46 := Try.sizeOf124
  v46 := Try.zeroValue124
  t51 := Try.underlying133
  a51 := Try.isAgg133
  z51 := Try.sizeOf133
  v51 := Try.zeroValue133
  t53 := Try.underlying135
  a53 := Try.isAgg135
  z53 := Try.sizeOf135
  v53 := Try.zeroValue135
  t131 := Try.underlying142
  a131 := Try.isAgg142
  z131 := Try.sizeOf142
  v131 := Try.zeroValue142
  t182 := Try.underlying145
  a182 := Try.isAgg145
  z182 := Try.sizeOf145
  v182 := Try.zeroValue145
  t183 := Try.underlying146
  a183 := Try.isAgg146
  z183 := Try.sizeOf146
  v183 := Try.zeroValue146
  t218 := Try.underlying158
  a218 := Try.isAgg158
  z218 := Try.sizeOf158
  v218 := Try.zeroValue158
  t222 := Try.underlying156
  a222 := Try.isAgg156
  z222 := Try.sizeOf156
  v222 := Try.zeroValue156
  t228 := Try.underlying164
  a228 := Try.isAgg164
  z228 := Try.sizeOf164
  v228 := Try.zeroValue164
  t229 := Try.underlying162
  a229 := Try.isAgg162
  z229 := Try.sizeOf162
  v229 := Try.zeroValue162 }
open Go.Sort Go.RowKit in
theorem Try.sort_Strings (blk off cap : Nat) (ss : List (List UInt8)) (w : World) (hH : Holds encStr w blk off ss.toArray) (hblk : blk < w.heap.size) (hsz : ss.length < 4611686018427387904) :
    Calls Try.prog 62 #[.slice (some ⟨blk, off, none⟩) ss.length cap] w fun e w' =>
      e = .returned (.tuple #[]) ∧ ∃ n os, w' = grow (putRow encStr (Sort.ahead w n) blk off (ss.mergeSort fun x y => decide (x ≤ y)).toArray) os := Any.sort_Strings Try.lays192 blk off cap ss w hH hblk hsz
end Go.Proofs
