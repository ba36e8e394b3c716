/-
  DERIVED: THE SHELF's CONTRACTS AT THIS DUMP, IN PLAIN WORDS (tools/lay-plain.mjs out of 'Qxb6605223aShelfTry.lean', which tools/lay-shelf.mjs wrote): THE SAME DECLARATIONS UNDER THE SAME NAMES: 'import', 'namespace', 'open', 'def', 'theorem' AND NOTHING ELSE: no command of the shelf's: FOR A HAND-IN. Each laying: the table of numbers ('.._ren') and one theorem, a field a fact of the dump's own or the kernel's comparison; each contract: ONE APPLICATION.
-/
import Derived.Shelf.SlGeneric
import Derived.Shelf.Small.Bits
import Derived.Shelf.SlSortCmp.Xorshift
import Derived.Shelf.Spec.SlicesGrow
import Derived.Ground.SlsfProg
import Derived.Test.Qxb6605223aProg
set_option maxRecDepth 1000000
namespace Go.Proofs
open Go.Shelf
def Try.lays125_ren : Go.Shelf.Ren := ⟨fun | 125 => 30 | 128 => 40 | 129 => 41 | n => n, fun | 46 => 65 | 3 => 3 | 51 => 66 | 53 => 64 | 4 => 4 | 5 => 5 | 9 => 9 | n => n, fun | n => n⟩
theorem Try.lays125 : Go.Proofs.Lays.n125 Try.prog Try.lays125_ren := {
  mixed := by kernel_rfl
  f125 := Try.func30.trans (congrArg some (by kernel_rfl))
  f128 := Try.func40.trans (congrArg some (by kernel_rfl))
  f129 := Try.func41.trans (congrArg some (by kernel_rfl))
  t3 := Try.underlying3
  a3 := Try.isAgg3
  z3 := Try.sizeOf3
  v3 := Try.zeroValue3
  t4 := Try.underlying4
  a4 := Try.isAgg4
  z4 := Try.sizeOf4
  v4 := Try.zeroValue4
  t5 := Try.underlying5
  a5 := Try.isAgg5
  z5 := Try.sizeOf5
  v5 := Try.zeroValue5
  t9 := Try.underlying9
  a9 := Try.isAgg9
  z9 := Try.sizeOf9
  v9 := Try.zeroValue9
  t46 := Try.underlying65
  a46 := Try.isAgg65
  z46 := Try.sizeOf65
  v46 := Try.zeroValue65
  t51 := Try.underlying66
  a51 := Try.isAgg66
  z51 := Try.sizeOf66
  v51 := Try.zeroValue66
  t53 := Try.underlying64
  a53 := Try.isAgg64
  z53 := Try.sizeOf64
  v53 := Try.zeroValue64 }
def Try.laysX_ren : Go.Shelf.Ren := ⟨fun | 48 => 44 | n => n, fun | 76 => 103 | 55 => 64 | 0 => 0 | 66 => 96 | 39 => 65 | n => n, fun | n => n⟩
theorem Try.laysX : Go.Proofs.SlLaysF0.n48 Try.prog Try.laysX_ren := {
  mixed := by kernel_rfl
  f48 := Try.func44.trans (congrArg some (by kernel_rfl))
  t0 := Try.underlying0
  a0 := Try.isAgg0
  z0 := Try.sizeOf0
  v0 := Try.zeroValue0
  t39 := Try.underlying65
  a39 := Try.isAgg65
  z39 := Try.sizeOf65
  v39 := Try.zeroValue65
  t55 := Try.underlying64
  a55 := Try.isAgg64
  z55 := Try.sizeOf64
  v55 := Try.zeroValue64
  t66 := Try.underlying96
  a66 := Try.isAgg96
  z66 := Try.sizeOf96
  v66 := Try.zeroValue96
  t76 := Try.underlying103
  a76 := Try.isAgg103
  z76 := Try.sizeOf103
  v76 := Try.zeroValue103 }
def Try.laysP_ren : Go.Shelf.Ren := ⟨fun | 47 => 43 | 15 => 30 | 28 => 40 | 29 => 41 | n => n, fun | 3 => 3 | 39 => 65 | 53 => 66 | 55 => 64 | 4 => 4 | 5 => 5 | 9 => 9 | n => n, fun | n => n⟩
theorem Try.laysP : Go.Proofs.SlLaysF0.n47 Try.prog Try.laysP_ren := {
  mixed := by kernel_rfl
  f15 := Try.func30.trans (congrArg some (by kernel_rfl))
  f28 := Try.func40.trans (congrArg some (by kernel_rfl))
  f29 := Try.func41.trans (congrArg some (by kernel_rfl))
  f47 := Try.func43.trans (congrArg some (by kernel_rfl))
  t3 := Try.underlying3
  a3 := Try.isAgg3
  z3 := Try.sizeOf3
  v3 := Try.zeroValue3
  t4 := Try.underlying4
  a4 := Try.isAgg4
  z4 := Try.sizeOf4
  v4 := Try.zeroValue4
  t5 := Try.underlying5
  a5 := Try.isAgg5
  z5 := Try.sizeOf5
  v5 := Try.zeroValue5
  t9 := Try.underlying9
  a9 := Try.isAgg9
  z9 := Try.sizeOf9
  v9 := Try.zeroValue9
  t39 := Try.underlying65
  a39 := Try.isAgg65
  z39 := Try.sizeOf65
  v39 := Try.zeroValue65
  t53 := Try.underlying66
  a53 := Try.isAgg66
  z53 := Try.sizeOf66
  v53 := Try.zeroValue66
  t55 := Try.underlying64
  a55 := Try.isAgg64
  z55 := Try.sizeOf64
  v55 := Try.zeroValue64 }
def Try.grow64_ren : Go.Shelf.Ren := ⟨fun | 4 => 27 | n => n, fun | 22 => 44 | 25 => 64 | 3 => 3 | 4 => 4 | 9 => 9 | 20 => 20 | 0 => 0 | n => n, fun | n => n⟩
theorem Try.grow64 : Go.Proofs.Lays8.n4 Try.prog Try.grow64_ren := {
  mixed := by kernel_rfl
  f4 := ⟨Try.f27.name, by decide, Try.func27.trans (congrArg some (by kernel_rfl))⟩
  t0 := Try.underlying0
  a0 := Try.isAgg0
  z0 := Try.sizeOf0
  v0 := Try.zeroValue0
  t3 := Try.underlying3
  a3 := Try.isAgg3
  z3 := Try.sizeOf3
  v3 := Try.zeroValue3
  t4 := Try.underlying4
  a4 := Try.isAgg4
  z4 := Try.sizeOf4
  v4 := Try.zeroValue4
  t9 := Try.underlying9
  a9 := Try.isAgg9
  z9 := Try.sizeOf9
  v9 := Try.zeroValue9
  t20 := Try.underlying20
  a20 := Try.isAgg20
  z20 := Try.sizeOf20
  v20 := Try.zeroValue20
  t22 := Try.underlying44
  a22 := Try.isAgg44
  z22 := Try.sizeOf44
  v22 := Try.zeroValue44 }
def Try.grow32_ren : Go.Shelf.Ren := ⟨fun | 4 => 28 | n => n, fun | 22 => 23 | 25 => 21 | 3 => 3 | 4 => 4 | 9 => 9 | 20 => 20 | 0 => 0 | n => n, fun | n => n⟩
theorem Try.grow32 : Go.Proofs.Lays8.n4 Try.prog Try.grow32_ren := {
  mixed := by kernel_rfl
  f4 := ⟨Try.f28.name, by decide, Try.func28.trans (congrArg some (by kernel_rfl))⟩
  t0 := Try.underlying0
  a0 := Try.isAgg0
  z0 := Try.sizeOf0
  v0 := Try.zeroValue0
  t3 := Try.underlying3
  a3 := Try.isAgg3
  z3 := Try.sizeOf3
  v3 := Try.zeroValue3
  t4 := Try.underlying4
  a4 := Try.isAgg4
  z4 := Try.sizeOf4
  v4 := Try.zeroValue4
  t9 := Try.underlying9
  a9 := Try.isAgg9
  z9 := Try.sizeOf9
  v9 := Try.zeroValue9
  t20 := Try.underlying20
  a20 := Try.isAgg20
  z20 := Try.sizeOf20
  v20 := Try.zeroValue20
  t22 := Try.underlying23
  a22 := Try.isAgg23
  z22 := Try.sizeOf23
  v22 := Try.zeroValue23 }
end Go.Proofs
