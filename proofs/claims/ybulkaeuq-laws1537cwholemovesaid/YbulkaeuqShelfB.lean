/-
  DERIVED: THE SHELF's CONTRACTS AT THIS DUMP, IN PLAIN WORDS (tools/lay-plain.mjs out of 'YbulkaeuqShelfB.lean', which tools/lay-shelf.mjs wrote): THE SAME DECLARATIONS UNDER THE SAME NAMES: 'import', 'namespace', 'open', 'def', 'theorem' AND NOTHING ELSE: no command of the shelf's: FOR A HAND-IN. Each laying: the table of numbers ('.._ren') and one theorem, a field a fact of the dump's own or the kernel's comparison; each contract: ONE APPLICATION.
-/
import Derived.Test.YbulkaeuqRows
import Derived.Shelf.SlSortCmp.Whole1
import Derived.Shelf.SlicesE.Reverse
import Derived.Ground.SlsfProg
import Derived.Ground.SlgnProg
set_option maxRecDepth 1000000
namespace Go.Proofs
open Go.Shelf
def Yba.sl58_ren : Go.Shelf.Ren := ⟨fun | 6 => 58 | 15 => 21 | 14 => 65 | 28 => 37 | 29 => 38 | 20 => 66 | 21 => 67 | 22 => 68 | 23 => 69 | 24 => 70 | 25 => 71 | 26 => 72 | 27 => 73 | 46 => 74 | 47 => 47 | 48 => 48 | 49 => 75 | 50 => 76 | 57 => 77 | n => n, fun | 22 => 44 | 24 => 28 | 25 => 110 | 3 => 3 | 39 => 23 | 0 => 0 | 53 => 91 | 55 => 67 | 4 => 4 | 46 => 84 | 45 => 83 | 50 => 88 | 5 => 5 | 9 => 9 | 66 => 98 | 70 => 102 | 76 => 111 | 77 => 112 | n => n, fun | n => n⟩
theorem Yba.sl58 : Go.Proofs.SlLaysF.n6 Yba.prog Yba.sl58_ren := {
  mixed := by kernel_rfl
  f6 := ⟨Yba.f58.name, by decide, Yba.func58.trans (congrArg some (by kernel_rfl))⟩
  f14 := ⟨Yba.f65.name, by decide, Yba.func65.trans (congrArg some (by kernel_rfl))⟩
  f15 := Yba.func21.trans (congrArg some (by kernel_rfl))
  f20 := ⟨Yba.f66.name, by decide, Yba.func66.trans (congrArg some (by kernel_rfl))⟩
  f21 := ⟨Yba.f67.name, by decide, Yba.func67.trans (congrArg some (by kernel_rfl))⟩
  f22 := ⟨Yba.f68.name, by decide, Yba.func68.trans (congrArg some (by kernel_rfl))⟩
  f23 := ⟨Yba.f69.name, by decide, Yba.func69.trans (congrArg some (by kernel_rfl))⟩
  f24 := ⟨Yba.f70.name, by decide, Yba.func70.trans (congrArg some (by kernel_rfl))⟩
  f25 := ⟨Yba.f71.name, by decide, Yba.func71.trans (congrArg some (by kernel_rfl))⟩
  f26 := ⟨Yba.f72.name, by decide, Yba.func72.trans (congrArg some (by kernel_rfl))⟩
  f27 := ⟨Yba.f73.name, by decide, Yba.func73.trans (congrArg some (by kernel_rfl))⟩
  f28 := Yba.func37.trans (congrArg some (by kernel_rfl))
  f29 := Yba.func38.trans (congrArg some (by kernel_rfl))
  f46 := ⟨Yba.f74.name, by decide, Yba.func74.trans (congrArg some (by kernel_rfl))⟩
  f47 := Yba.func47.trans (congrArg some (by kernel_rfl))
  f48 := Yba.func48.trans (congrArg some (by kernel_rfl))
  f49 := ⟨Yba.f75.name, by decide, Yba.func75.trans (congrArg some (by kernel_rfl))⟩
  f50 := ⟨Yba.f76.name, by decide, Yba.func76.trans (congrArg some (by kernel_rfl))⟩
  f57 := ⟨Yba.f77.name, by decide, Yba.func77.trans (congrArg some (by kernel_rfl))⟩
  t0 := Yba.underlying0
  a0 := Yba.isAgg0
  z0 := Yba.sizeOf0
  v0 := Yba.zeroValue0
  t3 := Yba.underlying3
  a3 := Yba.isAgg3
  z3 := Yba.sizeOf3
  v3 := Yba.zeroValue3
  t4 := Yba.underlying4
  a4 := Yba.isAgg4
  z4 := Yba.sizeOf4
  v4 := Yba.zeroValue4
  t5 := Yba.underlying5
  a5 := Yba.isAgg5
  z5 := Yba.sizeOf5
  v5 := Yba.zeroValue5
  t9 := Yba.underlying9
  a9 := Yba.isAgg9
  z9 := Yba.sizeOf9
  v9 := Yba.zeroValue9
  t22 := Yba.underlying44
  a22 := Yba.isAgg44
  z22 := Yba.sizeOf44
  v22 := Yba.zeroValue44
  a24 := Yba.isAgg28
  z24 := Yba.sizeOf28
  t25 := Yba.underlying110
  a25 := Yba.isAgg110
  z25 := Yba.sizeOf110
  v25 := Yba.zeroValue110
  t39 := Yba.underlying23
  a39 := Yba.isAgg23
  z39 := Yba.sizeOf23
  v39 := Yba.zeroValue23
  t45 := Yba.underlying83
  a45 := Yba.isAgg83
  z45 := Yba.sizeOf83
  v45 := Yba.zeroValue83
  t46 := Yba.underlying84
  a46 := Yba.isAgg84
  z46 := Yba.sizeOf84
  v46 := Yba.zeroValue84
  t50 := Yba.underlying88
  a50 := Yba.isAgg88
  z50 := Yba.sizeOf88
  v50 := Yba.zeroValue88
  t53 := Yba.underlying91
  a53 := Yba.isAgg91
  z53 := Yba.sizeOf91
  v53 := Yba.zeroValue91
  t55 := Yba.underlying67
  a55 := Yba.isAgg67
  z55 := Yba.sizeOf67
  v55 := Yba.zeroValue67
  t66 := Yba.underlying98
  a66 := Yba.isAgg98
  z66 := Yba.sizeOf98
  v66 := Yba.zeroValue98
  t70 := Yba.underlying102
  a70 := Yba.isAgg102
  z70 := Yba.sizeOf102
  v70 := Yba.zeroValue102
  t76 := Yba.underlying111
  a76 := Yba.isAgg111
  z76 := Yba.sizeOf111
  v76 := Yba.zeroValue111
  t77 := Yba.underlying112
  a77 := Yba.isAgg112
  z77 := Yba.sizeOf112
  v77 := Yba.zeroValue112 }
def Yba.sl61_ren : Go.Shelf.Ren := ⟨fun | 35 => 61 | n => n, fun | 22 => 44 | 23 => 28 | 3 => 3 | 4 => 4 | 0 => 0 | n => n, fun | n => n⟩
theorem Yba.sl61 : Go.Proofs.SlLaysE.n35 Yba.prog Yba.sl61_ren := {
  mixed := by kernel_rfl
  f35 := ⟨Yba.f61.name, by decide, Yba.func61.trans (congrArg some (by kernel_rfl))⟩
  t0 := Yba.underlying0
  a0 := Yba.isAgg0
  z0 := Yba.sizeOf0
  v0 := Yba.zeroValue0
  t3 := Yba.underlying3
  a3 := Yba.isAgg3
  z3 := Yba.sizeOf3
  v3 := Yba.zeroValue3
  t4 := Yba.underlying4
  a4 := Yba.isAgg4
  z4 := Yba.sizeOf4
  v4 := Yba.zeroValue4
  t22 := Yba.underlying44
  a22 := Yba.isAgg44
  z22 := Yba.sizeOf44
  v22 := Yba.zeroValue44
  a23 := Yba.isAgg28
  z23 := Yba.sizeOf28 }
end Go.Proofs
