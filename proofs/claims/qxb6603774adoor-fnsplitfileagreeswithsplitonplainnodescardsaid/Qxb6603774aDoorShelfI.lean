/-
  DERIVED: THE SHELF's CONTRACTS AT THIS DUMP, IN PLAIN WORDS (tools/lay-plain.mjs out of 'Qxb6603774aDoorShelfIM.lean', which tools/lay-shelf.mjs wrote): THE SAME DECLARATIONS UNDER THE SAME NAMES: 'import', 'namespace', 'open', 'def', 'theorem' AND NOTHING ELSE: no command of the shelf's: FOR A HAND-IN. Each laying: the table of numbers ('.._ren') and one theorem, a field a fact of the dump's own or the kernel's comparison; each contract: ONE APPLICATION.
-/
import Derived.Shelf.Strings.Split
import Derived.Test.Qxb6603774aDoorProg
namespace Go.Proofs
open Go.Shelf
def Tryd.lays143_ren : Go.Shelf.Ren := ⟨fun | 143 => 31 | 219 => 40 | 217 => 44 | 225 => 45 | 224 => 46 | 267 => 47 | 266 => 50 | 314 => 51 | n => n, fun | 9 => 9 | 3 => 3 | 4 => 4 | 5 => 5 | 46 => 52 | 146 => 59 | 51 => 58 | n => n, fun | 1 => 0 | n => n⟩
theorem Tryd.lays143 : Go.Proofs.Lays.n143 Tryd.prog Tryd.lays143_ren := {
  mixed := by kernel_rfl
  f143 := Tryd.func31.trans (congrArg some (by kernel_rfl))
  f217 := Tryd.func44.trans (congrArg some (by kernel_rfl))
  f219 := Tryd.func40.trans (congrArg some (by kernel_rfl))
  f224 := Tryd.func46.trans (congrArg some (by kernel_rfl))
  f225 := Tryd.func45.trans (congrArg some (by kernel_rfl))
  f266 := Tryd.func50.trans (congrArg some (by kernel_rfl))
  f267 := Tryd.func47.trans (congrArg some (by kernel_rfl))
  f314 := Tryd.func51.trans (congrArg some (by kernel_rfl))
  t3 := Tryd.underlying3
  a3 := Tryd.isAgg3
  z3 := Tryd.sizeOf3
  v3 := Tryd.zeroValue3
  t4 := Tryd.underlying4
  a4 := Tryd.isAgg4
  z4 := Tryd.sizeOf4
  v4 := Tryd.zeroValue4
  t5 := Tryd.underlying5
  a5 := Tryd.isAgg5
  z5 := Tryd.sizeOf5
  v5 := Tryd.zeroValue5
  t9 := Tryd.underlying9
  a9 := Tryd.isAgg9
  z9 := Tryd.sizeOf9
  v9 := Tryd.zeroValue9
  t46 := Tryd.underlying52
  a46 := Tryd.isAgg52
  z46 := Tryd.sizeOf52
  v46 := Tryd.zeroValue52
  t51 := Tryd.underlying58
  a51 := Tryd.isAgg58
  z51 := Tryd.sizeOf58
  v51 := Tryd.zeroValue58
  t146 := Tryd.underlying59
  a146 := Tryd.isAgg59
  z146 := Tryd.sizeOf59
  v146 := Tryd.zeroValue59
  g1 := by kernel_rfl }
end Go.Proofs
