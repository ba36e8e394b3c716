/-
  DERIVED: THE SHELF's CONTRACTS AT THIS DUMP, IN PLAIN WORDS (tools/lay-plain.mjs out of 'Qxb6605195aShelfTry.lean', which tools/lay-shelf.mjs wrote): THE SAME DECLARATIONS UNDER THE SAME NAMES: 'import', 'namespace', 'open', 'def', 'theorem' AND NOTHING ELSE: no command of the shelf's: FOR A HAND-IN. Each laying: the table of numbers ('.._ren') and one theorem, a field a fact of the dump's own or the kernel's comparison; each contract: ONE APPLICATION.
-/
import Derived.Shelf.SlGeneric
import Derived.Shelf.SlSortCmp.WholeK
import Derived.Ground.SlsfProg
import Derived.Test.Qxb6605195aProg
set_option maxRecDepth 1000000
namespace Go.Proofs
open Go.Shelf
def Try.sortR_ren : Go.Shelf.Ren := ⟨fun | 6 => 43 | 15 => 50 | 14 => 49 | 28 => 61 | 29 => 62 | 20 => 53 | 21 => 54 | 22 => 55 | 23 => 56 | 24 => 57 | 25 => 58 | 26 => 59 | 27 => 60 | 46 => 64 | 47 => 65 | 48 => 66 | 49 => 67 | 50 => 68 | 57 => 78 | n => n, fun | 22 => 27 | 24 => 60 | 25 => 81 | 3 => 3 | 39 => 69 | 0 => 0 | 53 => 100 | 55 => 30 | 4 => 4 | 46 => 93 | 45 => 92 | 50 => 97 | 5 => 5 | 9 => 9 | 66 => 103 | 70 => 107 | 76 => 115 | 77 => 116 | n => n, fun | n => n⟩
theorem Try.sortR : Go.Proofs.SlLaysF0.n6 Try.prog Try.sortR_ren := {
  mixed := by kernel_rfl
  f6 := ⟨Try.f43.name, by decide, Try.func43.trans (congrArg some (by kernel_rfl))⟩
  f14 := ⟨Try.f49.name, by decide, Try.func49.trans (congrArg some (by kernel_rfl))⟩
  f15 := Try.func50.trans (congrArg some (by kernel_rfl))
  f20 := ⟨Try.f53.name, by decide, Try.func53.trans (congrArg some (by kernel_rfl))⟩
  f21 := ⟨Try.f54.name, by decide, Try.func54.trans (congrArg some (by kernel_rfl))⟩
  f22 := ⟨Try.f55.name, by decide, Try.func55.trans (congrArg some (by kernel_rfl))⟩
  f23 := ⟨Try.f56.name, by decide, Try.func56.trans (congrArg some (by kernel_rfl))⟩
  f24 := ⟨Try.f57.name, by decide, Try.func57.trans (congrArg some (by kernel_rfl))⟩
  f25 := ⟨Try.f58.name, by decide, Try.func58.trans (congrArg some (by kernel_rfl))⟩
  f26 := ⟨Try.f59.name, by decide, Try.func59.trans (congrArg some (by kernel_rfl))⟩
  f27 := ⟨Try.f60.name, by decide, Try.func60.trans (congrArg some (by kernel_rfl))⟩
  f28 := Try.func61.trans (congrArg some (by kernel_rfl))
  f29 := Try.func62.trans (congrArg some (by kernel_rfl))
  f46 := ⟨Try.f64.name, by decide, Try.func64.trans (congrArg some (by kernel_rfl))⟩
  f47 := Try.func65.trans (congrArg some (by kernel_rfl))
  f48 := Try.func66.trans (congrArg some (by kernel_rfl))
  f49 := ⟨Try.f67.name, by decide, Try.func67.trans (congrArg some (by kernel_rfl))⟩
  f50 := ⟨Try.f68.name, by decide, Try.func68.trans (congrArg some (by kernel_rfl))⟩
  f57 := ⟨Try.f78.name, by decide, Try.func78.trans (congrArg some (by kernel_rfl))⟩
  t0 := Try.underlying0
  a0 := Try.isAgg0
  z0 := Try.sizeOf0
  v0 := Try.zeroValue0
  t3 := Try.underlying3
  a3 := Try.isAgg3
  z3 := Try.sizeOf3
  v3 := Try.zeroValue3
  t4 := Try.underlying4
  a4 := Try.isAgg4
  z4 := Try.sizeOf4
  v4 := Try.zeroValue4
  t5 := Try.underlying5
  a5 := Try.isAgg5
  z5 := Try.sizeOf5
  v5 := Try.zeroValue5
  t9 := Try.underlying9
  a9 := Try.isAgg9
  z9 := Try.sizeOf9
  v9 := Try.zeroValue9
  t22 := Try.underlying27
  a22 := Try.isAgg27
  z22 := Try.sizeOf27
  v22 := Try.zeroValue27
  t25 := Try.underlying81
  a25 := Try.isAgg81
  z25 := Try.sizeOf81
  v25 := Try.zeroValue81
  t39 := Try.underlying69
  a39 := Try.isAgg69
  z39 := Try.sizeOf69
  v39 := Try.zeroValue69
  t45 := Try.underlying92
  a45 := Try.isAgg92
  z45 := Try.sizeOf92
  v45 := Try.zeroValue92
  t46 := Try.underlying93
  a46 := Try.isAgg93
  z46 := Try.sizeOf93
  v46 := Try.zeroValue93
  t50 := Try.underlying97
  a50 := Try.isAgg97
  z50 := Try.sizeOf97
  v50 := Try.zeroValue97
  t53 := Try.underlying100
  a53 := Try.isAgg100
  z53 := Try.sizeOf100
  v53 := Try.zeroValue100
  t55 := Try.underlying30
  a55 := Try.isAgg30
  z55 := Try.sizeOf30
  v55 := Try.zeroValue30
  t66 := Try.underlying103
  a66 := Try.isAgg103
  z66 := Try.sizeOf103
  v66 := Try.zeroValue103
  t70 := Try.underlying107
  a70 := Try.isAgg107
  z70 := Try.sizeOf107
  v70 := Try.zeroValue107
  t76 := Try.underlying115
  a76 := Try.isAgg115
  z76 := Try.sizeOf115
  v76 := Try.zeroValue115
  t77 := Try.underlying116
  a77 := Try.isAgg116
  z77 := Try.sizeOf116
  v77 := Try.zeroValue116 }
end Go.Proofs
