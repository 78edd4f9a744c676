/-
  DERIVED: THE SHELF's CONTRACTS AT THIS DUMP, IN PLAIN WORDS (tools/lay-plain.mjs out of 'Qxb6600405aDoorShelf.lean', which tools/lay-shelf.mjs wrote): THE SAME DECLARATIONS UNDER THE SAME NAMES: 'import', 'namespace', 'open', 'def', 'theorem' AND NOTHING ELSE: no command of the shelf's: FOR A HAND-IN. Each laying: the table of numbers ('.._ren') and one theorem, a field a fact of the dump's own or the kernel's comparison; each contract: ONE APPLICATION.
-/
import Derived.Shelf.Strings.Split
import Derived.Test.Qxb6600405aDoorProg
namespace Go.Proofs
open Go.Shelf
def Tryd.lays146_ren : Go.Shelf.Ren := ⟨fun | 146 => 12 | 221 => 15 | 268 => 18 | 138 => 19 | 143 => 20 | 195 => 22 | 197 => 23 | 218 => 24 | 219 => 25 | 260 => 27 | 217 => 21 | 225 => 28 | 224 => 29 | 267 => 30 | 266 => 26 | 314 => 31 | n => n, fun | 9 => 9 | 31 => 23 | 3 => 3 | 4 => 4 | 0 => 0 | 105 => 37 | 21 => 21 | 5 => 5 | 46 => 40 | 119 => 41 | 139 => 44 | 138 => 43 | 146 => 46 | 51 => 45 | n => n, fun | 1 => 0 | 3 => 1 | 4 => 2 | n => n⟩
theorem Tryd.lays146 : Go.Proofs.Lays.n146 Tryd.prog Tryd.lays146_ren := {
  mixed := by kernel_rfl
  f138 := Tryd.func19.trans (congrArg some (by kernel_rfl))
  f143 := Tryd.func20.trans (congrArg some (by kernel_rfl))
  f146 := Tryd.func12.trans (congrArg some (by kernel_rfl))
  f195 := Tryd.func22.trans (congrArg some (by kernel_rfl))
  f197 := Tryd.func23.trans (congrArg some (by kernel_rfl))
  f217 := Tryd.func21.trans (congrArg some (by kernel_rfl))
  f218 := Tryd.func24.trans (congrArg some (by kernel_rfl))
  f219 := Tryd.func25.trans (congrArg some (by kernel_rfl))
  f221 := Tryd.func15.trans (congrArg some (by kernel_rfl))
  f224 := Tryd.func29.trans (congrArg some (by kernel_rfl))
  f225 := Tryd.func28.trans (congrArg some (by kernel_rfl))
  f260 := Tryd.func27.trans (congrArg some (by kernel_rfl))
  f266 := Tryd.func26.trans (congrArg some (by kernel_rfl))
  f267 := Tryd.func30.trans (congrArg some (by kernel_rfl))
  f268 := Tryd.func18.trans (congrArg some (by kernel_rfl))
  f314 := Tryd.func31.trans (congrArg some (by kernel_rfl))
  t0 := Tryd.underlying0
  a0 := Tryd.isAgg0
  z0 := Tryd.sizeOf0
  v0 := Tryd.zeroValue0
  t3 := Tryd.underlying3
  a3 := Tryd.isAgg3
  z3 := Tryd.sizeOf3
  v3 := Tryd.zeroValue3
  t4 := Tryd.underlying4
  a4 := Tryd.isAgg4
  z4 := Tryd.sizeOf4
  v4 := Tryd.zeroValue4
  t5 := Tryd.underlying5
  a5 := Tryd.isAgg5
  z5 := Tryd.sizeOf5
  v5 := Tryd.zeroValue5
  t9 := Tryd.underlying9
  a9 := Tryd.isAgg9
  z9 := Tryd.sizeOf9
  v9 := Tryd.zeroValue9
  t21 := Tryd.underlying21
  a21 := Tryd.isAgg21
  z21 := Tryd.sizeOf21
  v21 := Tryd.zeroValue21
  t31 := Tryd.underlying23
  a31 := Tryd.isAgg23
  z31 := Tryd.sizeOf23
  v31 := Tryd.zeroValue23
  t46 := Tryd.underlying40
  a46 := Tryd.isAgg40
  z46 := Tryd.sizeOf40
  v46 := Tryd.zeroValue40
  t51 := Tryd.underlying45
  a51 := Tryd.isAgg45
  z51 := Tryd.sizeOf45
  v51 := Tryd.zeroValue45
  t105 := Tryd.underlying37
  a105 := Tryd.isAgg37
  z105 := Tryd.sizeOf37
  v105 := Tryd.zeroValue37
  t119 := Tryd.underlying41
  a119 := Tryd.isAgg41
  z119 := Tryd.sizeOf41
  t138 := Tryd.underlying43
  a138 := Tryd.isAgg43
  z138 := Tryd.sizeOf43
  v138 := Tryd.zeroValue43
  t139 := Tryd.underlying44
  a139 := Tryd.isAgg44
  z139 := Tryd.sizeOf44
  v139 := Tryd.zeroValue44
  t146 := Tryd.underlying46
  a146 := Tryd.isAgg46
  z146 := Tryd.sizeOf46
  v146 := Tryd.zeroValue46
  g1 := by kernel_rfl
  g3 := by kernel_rfl
  g4 := by kernel_rfl }
def Tryd.lays217_ren : Go.Shelf.Ren := ⟨fun | 217 => 21 | 266 => 26 | n => n, fun | 9 => 9 | 5 => 5 | 3 => 3 | n => n, fun | n => n⟩
theorem Tryd.lays217 : Go.Proofs.Lays.n217 Tryd.prog Tryd.lays217_ren := {
  mixed := by kernel_rfl
  f217 := Tryd.func21.trans (congrArg some (by kernel_rfl))
  f266 := Tryd.func26.trans (congrArg some (by kernel_rfl))
  t3 := Tryd.underlying3
  a3 := Tryd.isAgg3
  z3 := Tryd.sizeOf3
  v3 := Tryd.zeroValue3
  t5 := Tryd.underlying5
  a5 := Tryd.isAgg5
  z5 := Tryd.sizeOf5
  v5 := Tryd.zeroValue5
  t9 := Tryd.underlying9
  a9 := Tryd.isAgg9
  z9 := Tryd.sizeOf9
  v9 := Tryd.zeroValue9 }
end Go.Proofs
