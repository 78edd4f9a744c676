/-
  DERIVED: THE SHELF's CONTRACTS AT THIS DUMP, IN PLAIN WORDS (tools/lay-plain.mjs out of 'Qxb6600397aDoorShelf.lean', which tools/lay-shelf.mjs wrote): THE SAME DECLARATIONS UNDER THE SAME NAMES: 'import', 'namespace', 'open', 'def', 'theorem' AND NOTHING ELSE: no command of the shelf's: FOR A HAND-IN. Each laying: the table of numbers ('.._ren') and one theorem, a field a fact of the dump's own or the kernel's comparison; each contract: ONE APPLICATION.
-/
import Derived.Shelf.Strings.Split
import Derived.Test.Qxb6600397aDoorProg
namespace Go.Proofs
open Go.Shelf
def Tryd.lays146_ren : Go.Shelf.Ren := ⟨fun | 146 => 9 | 221 => 12 | 268 => 13 | 138 => 14 | 143 => 15 | 195 => 16 | 197 => 17 | 218 => 18 | 219 => 19 | 260 => 20 | 217 => 21 | 225 => 22 | 224 => 23 | 267 => 24 | 266 => 25 | 314 => 26 | n => n, fun | 9 => 9 | 31 => 24 | 3 => 3 | 4 => 4 | 0 => 0 | 105 => 31 | 21 => 21 | 5 => 5 | 46 => 35 | 119 => 36 | 139 => 39 | 138 => 38 | 146 => 41 | 51 => 40 | n => n, fun | 1 => 0 | 3 => 1 | 4 => 2 | n => n⟩
theorem Tryd.lays146 : Go.Proofs.Lays.n146 Tryd.prog Tryd.lays146_ren := {
  mixed := by kernel_rfl
  f138 := Tryd.func14.trans (congrArg some (by kernel_rfl))
  f143 := Tryd.func15.trans (congrArg some (by kernel_rfl))
  f146 := Tryd.func9.trans (congrArg some (by kernel_rfl))
  f195 := Tryd.func16.trans (congrArg some (by kernel_rfl))
  f197 := Tryd.func17.trans (congrArg some (by kernel_rfl))
  f217 := Tryd.func21.trans (congrArg some (by kernel_rfl))
  f218 := Tryd.func18.trans (congrArg some (by kernel_rfl))
  f219 := Tryd.func19.trans (congrArg some (by kernel_rfl))
  f221 := Tryd.func12.trans (congrArg some (by kernel_rfl))
  f224 := Tryd.func23.trans (congrArg some (by kernel_rfl))
  f225 := Tryd.func22.trans (congrArg some (by kernel_rfl))
  f260 := Tryd.func20.trans (congrArg some (by kernel_rfl))
  f266 := Tryd.func25.trans (congrArg some (by kernel_rfl))
  f267 := Tryd.func24.trans (congrArg some (by kernel_rfl))
  f268 := Tryd.func13.trans (congrArg some (by kernel_rfl))
  f314 := Tryd.func26.trans (congrArg some (by kernel_rfl))
  t0 := Tryd.underlying0
  a0 := Tryd.isAgg0
  z0 := Tryd.sizeOf0
  v0 := Tryd.zeroValue0
  t3 := Tryd.underlying3
  a3 := Tryd.isAgg3
  z3 := Tryd.sizeOf3
  v3 := Tryd.zeroValue3
  t4 := Tryd.underlying4
  a4 := Tryd.isAgg4
  z4 := Tryd.sizeOf4
  v4 := Tryd.zeroValue4
  t5 := Tryd.underlying5
  a5 := Tryd.isAgg5
  z5 := Tryd.sizeOf5
  v5 := Tryd.zeroValue5
  t9 := Tryd.underlying9
  a9 := Tryd.isAgg9
  z9 := Tryd.sizeOf9
  v9 := Tryd.zeroValue9
  t21 := Tryd.underlying21
  a21 := Tryd.isAgg21
  z21 := Tryd.sizeOf21
  v21 := Tryd.zeroValue21
  t31 := Tryd.underlying24
  a31 := Tryd.isAgg24
  z31 := Tryd.sizeOf24
  v31 := Tryd.zeroValue24
  t46 := Tryd.underlying35
  a46 := Tryd.isAgg35
  z46 := Tryd.sizeOf35
  v46 := Tryd.zeroValue35
  t51 := Tryd.underlying40
  a51 := Tryd.isAgg40
  z51 := Tryd.sizeOf40
  v51 := Tryd.zeroValue40
  t105 := Tryd.underlying31
  a105 := Tryd.isAgg31
  z105 := Tryd.sizeOf31
  v105 := Tryd.zeroValue31
  t119 := Tryd.underlying36
  a119 := Tryd.isAgg36
  z119 := Tryd.sizeOf36
  t138 := Tryd.underlying38
  a138 := Tryd.isAgg38
  z138 := Tryd.sizeOf38
  v138 := Tryd.zeroValue38
  t139 := Tryd.underlying39
  a139 := Tryd.isAgg39
  z139 := Tryd.sizeOf39
  v139 := Tryd.zeroValue39
  t146 := Tryd.underlying41
  a146 := Tryd.isAgg41
  z146 := Tryd.sizeOf41
  v146 := Tryd.zeroValue41
  g1 := by kernel_rfl
  g3 := by kernel_rfl
  g4 := by kernel_rfl }
end Go.Proofs
