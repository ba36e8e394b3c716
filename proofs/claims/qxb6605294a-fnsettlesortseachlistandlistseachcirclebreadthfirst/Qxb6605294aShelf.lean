/-
  DERIVED: THE SHELF's CONTRACTS AT THIS DUMP, IN PLAIN WORDS (tools/lay-plain.mjs out of 'Qxb6605294aShelfTry.lean', which tools/lay-shelf.mjs wrote): THE SAME DECLARATIONS UNDER THE SAME NAMES: 'import', 'namespace', 'open', 'def', 'theorem' AND NOTHING ELSE: no command of the shelf's: FOR A HAND-IN. Each laying: the table of numbers ('.._ren') and one theorem, a field a fact of the dump's own or the kernel's comparison; each contract: ONE APPLICATION.
-/
import Derived.Shelf.Sort.Plain
import Derived.Ground.NamesProg
import Derived.Ground.Names2Prog
import Derived.Shelf.Slices.CompactI
import Derived.Shelf.Slices.In.SortNone
import Derived.Test.Qxb6605294aProg
set_option maxRecDepth 1000000
namespace Go.Proofs
open Go.Shelf
def Try.lays189_ren : Go.Shelf.Ren := ⟨fun | 189 => 64 | 125 => 71 | 257 => 70 | 128 => 81 | 129 => 82 | 294 => 72 | 295 => 73 | 296 => 74 | 297 => 75 | 298 => 76 | 299 => 77 | 216 => 78 | 300 => 79 | 301 => 80 | 328 => 83 | 329 => 84 | 330 => 85 | 331 => 86 | 332 => 87 | 215 => 88 | 343 => 89 | n => n, fun | 28 => 22 | 3 => 3 | 46 => 113 | 0 => 0 | 51 => 61 | 53 => 124 | 4 => 4 | 183 => 116 | 182 => 115 | 131 => 40 | 5 => 5 | 9 => 9 | 218 => 125 | 222 => 129 | 228 => 132 | 229 => 133 | n => n, fun | n => n⟩
theorem Try.lays189 : Go.Proofs.Lays.n189 Try.prog Try.lays189_ren := {
  mixed := by kernel_rfl
  f125 := Try.func71.trans (congrArg some (by kernel_rfl))
  f128 := Try.func81.trans (congrArg some (by kernel_rfl))
  f129 := Try.func82.trans (congrArg some (by kernel_rfl))
  f189 := Try.func64.trans (congrArg some (by kernel_rfl))
  f215 := Try.func88.trans (congrArg some (by kernel_rfl))
  f216 := Try.func78.trans (congrArg some (by kernel_rfl))
  f257 := Try.func70.trans (congrArg some (by kernel_rfl))
  f294 := Try.func72.trans (congrArg some (by kernel_rfl))
  f295 := Try.func73.trans (congrArg some (by kernel_rfl))
  f296 := Try.func74.trans (congrArg some (by kernel_rfl))
  f297 := Try.func75.trans (congrArg some (by kernel_rfl))
  f298 := Try.func76.trans (congrArg some (by kernel_rfl))
  f299 := Try.func77.trans (congrArg some (by kernel_rfl))
  f300 := Try.func79.trans (congrArg some (by kernel_rfl))
  f301 := Try.func80.trans (congrArg some (by kernel_rfl))
  f328 := Try.func83.trans (congrArg some (by kernel_rfl))
  f329 := Try.func84.trans (congrArg some (by kernel_rfl))
  f330 := Try.func85.trans (congrArg some (by kernel_rfl))
  f331 := Try.func86.trans (congrArg some (by kernel_rfl))
  f332 := Try.func87.trans (congrArg some (by kernel_rfl))
  f343 := Try.func89.trans (congrArg some (by kernel_rfl))
  t0 := Try.underlying0
  a0 := Try.isAgg0
  z0 := Try.sizeOf0
  v0 := Try.zeroValue0
  t3 := Try.underlying3
  a3 := Try.isAgg3
  z3 := Try.sizeOf3
  v3 := Try.zeroValue3
  t4 := Try.underlying4
  a4 := Try.isAgg4
  z4 := Try.sizeOf4
  v4 := Try.zeroValue4
  t5 := Try.underlying5
  a5 := Try.isAgg5
  z5 := Try.sizeOf5
  v5 := Try.zeroValue5
  t9 := Try.underlying9
  a9 := Try.isAgg9
  z9 := Try.sizeOf9
  v9 := Try.zeroValue9
  t28 := Try.underlying22
  a28 := Try.isAgg22
  z28 := Try.sizeOf22
  v28 := Try.zeroValue22
  t46 := Try.underlying113
  a46 := Try.isAgg113
  z46 := Try.sizeOf113
  v46 := Try.zeroValue113
  t51 := Try.underlying61
  a51 := Try.isAgg61
  z51 := Try.sizeOf61
  v51 := Try.zeroValue61
  t53 := Try.underlying124
  a53 := Try.isAgg124
  z53 := Try.sizeOf124
  v53 := Try.zeroValue124
  t131 := Try.underlying40
  a131 := Try.isAgg40
  z131 := Try.sizeOf40
  v131 := Try.zeroValue40
  t182 := Try.underlying115
  a182 := Try.isAgg115
  z182 := Try.sizeOf115
  v182 := Try.zeroValue115
  t183 := Try.underlying116
  a183 := Try.isAgg116
  z183 := Try.sizeOf116
  v183 := Try.zeroValue116
  t218 := Try.underlying125
  a218 := Try.isAgg125
  z218 := Try.sizeOf125
  v218 := Try.zeroValue125
  t222 := Try.underlying129
  a222 := Try.isAgg129
  z222 := Try.sizeOf129
  v222 := Try.zeroValue129
  t228 := Try.underlying132
  a228 := Try.isAgg132
  z228 := Try.sizeOf132
  v228 := Try.zeroValue132
  t229 := Try.underlying133
  a229 := Try.isAgg133
  z229 := Try.sizeOf133
  v229 := Try.zeroValue133 }
open Go.Sort Go.RowKit in
theorem Try.slices_Sort_int (blk off cap : Nat) (zs : List Int) (w : World) (hH : Holds (Value.int .i64) w blk off zs.toArray) (hblk : blk < w.heap.size) (hsz : zs.length < 4611686018427387904) :
    Calls Try.prog 64 #[.slice (some ⟨blk, off, none⟩) zs.length cap] w fun e w' =>
      e = .returned (.tuple #[]) ∧ ∃ n os, w' = grow (putRow (Value.int .i64) (Sort.ahead w n) blk off (zs.mergeSort fun x y => decide (x ≤ y)).toArray) os := Any.slices_Sort_int Try.lays189 blk off cap zs w hH hblk hsz
def Try.laysNm220_ren : Go.Shelf.Ren := ⟨fun | 20 => 65 | n => n, fun | 22 => 22 | 3 => 3 | 4 => 4 | 0 => 0 | n => n, fun | n => n⟩
theorem Try.laysNm220 : Go.Proofs.Lays2.n20 Try.prog Try.laysNm220_ren := {
  mixed := by kernel_rfl
  f20 := Try.func65.trans (congrArg some (by kernel_rfl))
  t0 := Try.underlying0
  a0 := Try.isAgg0
  z0 := Try.sizeOf0
  v0 := Try.zeroValue0
  t3 := Try.underlying3
  a3 := Try.isAgg3
  z3 := Try.sizeOf3
  v3 := Try.zeroValue3
  t4 := Try.underlying4
  a4 := Try.isAgg4
  z4 := Try.sizeOf4
  v4 := Try.zeroValue4
  t22 := Try.underlying22
  a22 := Try.isAgg22
  z22 := Try.sizeOf22
  v22 := Try.zeroValue22
  i3 := by kernel_rfl }
open Go.RowKit Go.Lib Go.Sort in
theorem Try.slices_Compact_int (blk off cap : Nat) (zs : List Int) (w : World) (hH : Holds (Value.int .i64) w blk off zs.toArray) (hsz : zs.length ≤ 9223372036854775807) (hcap : zs.length ≤ cap) :
    Calls Try.prog 65 #[.slice (some ⟨blk, off, none⟩) zs.length cap] w fun e w' => e = .returned (.slice (some ⟨blk, off, none⟩) (Lib.compact zs).length cap) ∧ ∃ q, w' = putRow (Value.int .i64) (Sort.ahead w q) blk off (Lib.compact zs ++ List.replicate (zs.length - (Lib.compact zs).length) 0).toArray := Any.slices_Compact_int Try.laysNm220 blk off cap zs w hH hsz hcap
open Go.RowKit Go.Lib Go.Sort in
theorem Try.slices_Compact_int_empty (a : Option Addr) (cap : Nat) (w : World) :
    Calls Try.prog 65 #[.slice a 0 cap] w fun e w' => e = .returned (.slice a 0 cap) ∧ w' = w := Any.slices_Compact_int_empty Try.laysNm220 a cap w
open Go.RowKit Go.Sort in
theorem Try.slices_Sort_int_none (p : Option Addr) (cap : Nat) (w : World) :
    Calls Try.prog 64 #[.slice p 0 cap] w fun e w' => e = .returned (.tuple #[]) ∧ w' = w := Any.slices_Sort_int_none Try.lays189 p cap w
end Go.Proofs
