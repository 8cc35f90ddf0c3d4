/-
  DERIVED: THE SHELF's CONTRACTS AT THIS DUMP, IN PLAIN WORDS (tools/lay-plain.mjs out of 'YbulkaewgFmtShelf.lean', which tools/lay-shelf.mjs wrote): THE SAME DECLARATIONS UNDER THE SAME NAMES: 'import', 'namespace', 'open', 'def', 'theorem' AND NOTHING ELSE: no command of the shelf's: FOR A HAND-IN. Each laying: the table of numbers ('.._ren') and one theorem, a field a fact of the dump's own or the kernel's comparison; each contract: ONE APPLICATION.
-/
import Derived.Test.YbulkaewgFmtRows
import Derived.Shelf.Hex.Tagged
import Derived.Ground.PaProg
namespace Go.Proofs
open Go.Shelf
def Ybaf.lays44_ren : Go.Shelf.Ren := ⟨fun | 44 => 14 | n => n, fun | 30 => 22 | 3 => 3 | 35 => 29 | 4 => 4 | 0 => 0 | 5 => 5 | 9 => 9 | 47 => 59 | 46 => 42 | 45 => 64 | n => n, fun | 0 => 4 | n => n⟩
theorem Ybaf.lays44 : Go.Proofs.Lays.p44 Ybaf.prog Ybaf.lays44_ren := {
  mixed := by kernel_rfl
  f44 := Ybaf.func14.trans (congrArg some (by kernel_rfl))
  t0 := Ybaf.underlying0
  a0 := Ybaf.isAgg0
  z0 := Ybaf.sizeOf0
  v0 := Ybaf.zeroValue0
  t3 := Ybaf.underlying3
  a3 := Ybaf.isAgg3
  z3 := Ybaf.sizeOf3
  v3 := Ybaf.zeroValue3
  t4 := Ybaf.underlying4
  a4 := Ybaf.isAgg4
  z4 := Ybaf.sizeOf4
  v4 := Ybaf.zeroValue4
  t5 := Ybaf.underlying5
  a5 := Ybaf.isAgg5
  z5 := Ybaf.sizeOf5
  v5 := Ybaf.zeroValue5
  t9 := Ybaf.underlying9
  a9 := Ybaf.isAgg9
  z9 := Ybaf.sizeOf9
  v9 := Ybaf.zeroValue9
  t30 := Ybaf.underlying22
  a30 := Ybaf.isAgg22
  z30 := Ybaf.sizeOf22
  v30 := Ybaf.zeroValue22
  t35 := Ybaf.underlying29
  a35 := Ybaf.isAgg29
  z35 := Ybaf.sizeOf29
  v35 := Ybaf.zeroValue29
  t45 := Ybaf.underlying64
  a45 := Ybaf.isAgg64
  z45 := Ybaf.sizeOf64
  v45 := Ybaf.zeroValue64
  t46 := Ybaf.underlying42
  a46 := Ybaf.isAgg42
  z46 := Ybaf.sizeOf42
  v46 := Ybaf.zeroValue42
  t47 := Ybaf.underlying59
  a47 := Ybaf.isAgg59
  z47 := Ybaf.sizeOf59
  v47 := Ybaf.zeroValue59
  g0 := by kernel_rfl }
end Go.Proofs
