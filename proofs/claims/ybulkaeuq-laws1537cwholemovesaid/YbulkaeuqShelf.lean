/-
  DERIVED: THE SHELF's CONTRACTS AT THIS DUMP, IN PLAIN WORDS (tools/lay-plain.mjs out of 'YbulkaeuqShelf.lean', which tools/lay-shelf.mjs wrote): THE SAME DECLARATIONS UNDER THE SAME NAMES: 'import', 'namespace', 'open', 'def', 'theorem' AND NOTHING ELSE: no command of the shelf's: FOR A HAND-IN. Each laying: the table of numbers ('.._ren') and one theorem, a field a fact of the dump's own or the kernel's comparison; each contract: ONE APPLICATION.
-/
import Derived.Test.YbulkaeuqRows
import Derived.Shelf.SlGeneric
import Derived.Shelf.SortM.Plain
import Derived.Shelf.SortM.SortNone
import Derived.Shelf.SlicesG.Equal
import Derived.Ground.SlgmProg
import Derived.Ground.SlgnProg
namespace Go.Proofs
open Go.Shelf
def Yba.sl9_ren : Go.Shelf.Ren := ⟨fun | 5 => 9 | 8 => 21 | 7 => 20 | 19 => 37 | 20 => 38 | 10 => 28 | 11 => 29 | 12 => 30 | 13 => 31 | 14 => 32 | 15 => 33 | 16 => 34 | 17 => 35 | 18 => 36 | 30 => 46 | 31 => 47 | 32 => 48 | 33 => 49 | 34 => 50 | 35 => 51 | 40 => 62 | n => n, fun | 23 => 22 | 25 => 2 | 3 => 3 | 32 => 23 | 22 => 22 | 0 => 0 | 44 => 91 | 46 => 67 | 4 => 4 | 36 => 84 | 35 => 83 | 41 => 88 | 5 => 5 | 9 => 9 | 53 => 98 | 57 => 102 | 63 => 111 | 64 => 112 | n => n, fun | n => n⟩
theorem Yba.sl9 : Go.Proofs.SlLaysM.n5 Yba.prog Yba.sl9_ren := {
  mixed := by kernel_rfl
  f5 := ⟨Yba.f9.name, by decide, Yba.func9.trans (congrArg some (by kernel_rfl))⟩
  f7 := ⟨Yba.f20.name, by decide, Yba.func20.trans (congrArg some (by kernel_rfl))⟩
  f8 := Yba.func21.trans (congrArg some (by kernel_rfl))
  f10 := ⟨Yba.f28.name, by decide, Yba.func28.trans (congrArg some (by kernel_rfl))⟩
  f11 := ⟨Yba.f29.name, by decide, Yba.func29.trans (congrArg some (by kernel_rfl))⟩
  f12 := ⟨Yba.f30.name, by decide, Yba.func30.trans (congrArg some (by kernel_rfl))⟩
  f13 := ⟨Yba.f31.name, by decide, Yba.func31.trans (congrArg some (by kernel_rfl))⟩
  f14 := ⟨Yba.f32.name, by decide, Yba.func32.trans (congrArg some (by kernel_rfl))⟩
  f15 := ⟨Yba.f33.name, by decide, Yba.func33.trans (congrArg some (by kernel_rfl))⟩
  f16 := ⟨Yba.f34.name, by decide, Yba.func34.trans (congrArg some (by kernel_rfl))⟩
  f17 := ⟨Yba.f35.name, by decide, Yba.func35.trans (congrArg some (by kernel_rfl))⟩
  f18 := ⟨Yba.f36.name, by decide, Yba.func36.trans (congrArg some (by kernel_rfl))⟩
  f19 := Yba.func37.trans (congrArg some (by kernel_rfl))
  f20 := Yba.func38.trans (congrArg some (by kernel_rfl))
  f30 := ⟨Yba.f46.name, by decide, Yba.func46.trans (congrArg some (by kernel_rfl))⟩
  f31 := Yba.func47.trans (congrArg some (by kernel_rfl))
  f32 := Yba.func48.trans (congrArg some (by kernel_rfl))
  f33 := ⟨Yba.f49.name, by decide, Yba.func49.trans (congrArg some (by kernel_rfl))⟩
  f34 := ⟨Yba.f50.name, by decide, Yba.func50.trans (congrArg some (by kernel_rfl))⟩
  f35 := ⟨Yba.f51.name, by decide, Yba.func51.trans (congrArg some (by kernel_rfl))⟩
  f40 := ⟨Yba.f62.name, by decide, Yba.func62.trans (congrArg some (by kernel_rfl))⟩
  t0 := Yba.underlying0
  a0 := Yba.isAgg0
  z0 := Yba.sizeOf0
  v0 := Yba.zeroValue0
  t3 := Yba.underlying3
  a3 := Yba.isAgg3
  z3 := Yba.sizeOf3
  v3 := Yba.zeroValue3
  t4 := Yba.underlying4
  a4 := Yba.isAgg4
  z4 := Yba.sizeOf4
  v4 := Yba.zeroValue4
  t5 := Yba.underlying5
  a5 := Yba.isAgg5
  z5 := Yba.sizeOf5
  v5 := Yba.zeroValue5
  t9 := Yba.underlying9
  a9 := Yba.isAgg9
  z9 := Yba.sizeOf9
  v9 := Yba.zeroValue9
  t22 := Yba.underlying22
  a22 := Yba.isAgg22
  z22 := Yba.sizeOf22
  v22 := Yba.zeroValue22
  t23 := Yba.underlying22
  a23 := Yba.isAgg22
  z23 := Yba.sizeOf22
  v23 := Yba.zeroValue22
  t25 := Yba.underlying2
  a25 := Yba.isAgg2
  z25 := Yba.sizeOf2
  v25 := Yba.zeroValue2
  t32 := Yba.underlying23
  a32 := Yba.isAgg23
  z32 := Yba.sizeOf23
  v32 := Yba.zeroValue23
  t35 := Yba.underlying83
  a35 := Yba.isAgg83
  z35 := Yba.sizeOf83
  v35 := Yba.zeroValue83
  t36 := Yba.underlying84
  a36 := Yba.isAgg84
  z36 := Yba.sizeOf84
  v36 := Yba.zeroValue84
  t41 := Yba.underlying88
  a41 := Yba.isAgg88
  z41 := Yba.sizeOf88
  v41 := Yba.zeroValue88
  t44 := Yba.underlying91
  a44 := Yba.isAgg91
  z44 := Yba.sizeOf91
  v44 := Yba.zeroValue91
  t46 := Yba.underlying67
  a46 := Yba.isAgg67
  z46 := Yba.sizeOf67
  v46 := Yba.zeroValue67
  t53 := Yba.underlying98
  a53 := Yba.isAgg98
  z53 := Yba.sizeOf98
  v53 := Yba.zeroValue98
  t57 := Yba.underlying102
  a57 := Yba.isAgg102
  z57 := Yba.sizeOf102
  v57 := Yba.zeroValue102
  t63 := Yba.underlying111
  a63 := Yba.isAgg111
  z63 := Yba.sizeOf111
  v63 := Yba.zeroValue111
  t64 := Yba.underlying112
  a64 := Yba.isAgg112
  z64 := Yba.sizeOf112
  v64 := Yba.zeroValue112 }
def Yba.sl11_ren : Go.Shelf.Ren := ⟨fun | 33 => 11 | n => n, fun | 22 => 22 | 23 => 2 | 4 => 4 | 3 => 3 | 0 => 0 | n => n, fun | n => n⟩
theorem Yba.sl11 : Go.Proofs.SlLaysN.n33 Yba.prog Yba.sl11_ren := {
  mixed := by kernel_rfl
  f33 := ⟨Yba.f11.name, by decide, Yba.func11.trans (congrArg some (by kernel_rfl))⟩
  t0 := Yba.underlying0
  a0 := Yba.isAgg0
  z0 := Yba.sizeOf0
  v0 := Yba.zeroValue0
  t3 := Yba.underlying3
  a3 := Yba.isAgg3
  z3 := Yba.sizeOf3
  v3 := Yba.zeroValue3
  t4 := Yba.underlying4
  a4 := Yba.isAgg4
  z4 := Yba.sizeOf4
  v4 := Yba.zeroValue4
  t22 := Yba.underlying22
  a22 := Yba.isAgg22
  z22 := Yba.sizeOf22
  v22 := Yba.zeroValue22
  t23 := Yba.underlying2
  a23 := Yba.isAgg2
  z23 := Yba.sizeOf2
  v23 := Yba.zeroValue2 }
end Go.Proofs
