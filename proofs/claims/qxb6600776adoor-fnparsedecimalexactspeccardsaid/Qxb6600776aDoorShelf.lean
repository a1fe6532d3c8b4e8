/-
  DERIVED: THE SHELF's CONTRACTS AT THIS DUMP, IN PLAIN WORDS (tools/lay-plain.mjs out of 'Qxb6600776aDoorShelf.lean', which tools/lay-shelf.mjs wrote): THE SAME DECLARATIONS UNDER THE SAME NAMES: 'import', 'namespace', 'open', 'def', 'theorem' AND NOTHING ELSE: no command of the shelf's: FOR A HAND-IN. Each laying: the table of numbers ('.._ren') and one theorem, a field a fact of the dump's own or the kernel's comparison; each contract: ONE APPLICATION.
-/
import Derived.Ground.NamesProg
import Derived.Shelf.Strconv.Itoa0
import Derived.Shelf.Strings.Count
import Derived.Shelf.Bits.Mul64
import Derived.Test.Qxb6600776aDoorProg
namespace Go.Proofs
open Go.Shelf
def Tryd.lays129_ren : Go.Shelf.Ren := ⟨fun | 129 => 59 | n => n, fun | 53 => 28 | 3 => 3 | 4 => 4 | 46 => 46 | 5 => 5 | 9 => 9 | n => n, fun | n => n⟩
theorem Tryd.lays129 : Go.Proofs.Lays.n129 Tryd.prog Tryd.lays129_ren := {
  mixed := by kernel_rfl
  f129 := Tryd.func59.trans (congrArg some (by kernel_rfl))
  t3 := Tryd.underlying3
  a3 := Tryd.isAgg3
  z3 := Tryd.sizeOf3
  v3 := Tryd.zeroValue3
  t4 := Tryd.underlying4
  a4 := Tryd.isAgg4
  z4 := Tryd.sizeOf4
  v4 := Tryd.zeroValue4
  t5 := Tryd.underlying5
  a5 := Tryd.isAgg5
  z5 := Tryd.sizeOf5
  v5 := Tryd.zeroValue5
  t9 := Tryd.underlying9
  a9 := Tryd.isAgg9
  z9 := Tryd.sizeOf9
  v9 := Tryd.zeroValue9
  t46 := Tryd.underlying46
  a46 := Tryd.isAgg46
  z46 := Tryd.sizeOf46
  v46 := Tryd.zeroValue46
  t53 := Tryd.underlying28
  a53 := Tryd.isAgg28
  z53 := Tryd.sizeOf28
  v53 := Tryd.zeroValue28 }
def Tryd.lays138_ren : Go.Shelf.Ren := ⟨fun | 138 => 16 | 195 => 18 | 218 => 19 | 143 => 20 | 219 => 23 | 217 => 29 | 225 => 30 | 224 => 31 | 267 => 32 | 266 => 38 | 314 => 39 | n => n, fun | 9 => 9 | 3 => 3 | 4 => 4 | 5 => 5 | 0 => 0 | 46 => 46 | 146 => 57 | 51 => 56 | n => n, fun | 1 => 0 | n => n⟩
theorem Tryd.lays138 : Go.Proofs.Lays.n138 Tryd.prog Tryd.lays138_ren := {
  mixed := by kernel_rfl
  f138 := Tryd.func16.trans (congrArg some (by kernel_rfl))
  f143 := Tryd.func20.trans (congrArg some (by kernel_rfl))
  f195 := Tryd.func18.trans (congrArg some (by kernel_rfl))
  f217 := Tryd.func29.trans (congrArg some (by kernel_rfl))
  f218 := Tryd.func19.trans (congrArg some (by kernel_rfl))
  f219 := Tryd.func23.trans (congrArg some (by kernel_rfl))
  f224 := Tryd.func31.trans (congrArg some (by kernel_rfl))
  f225 := Tryd.func30.trans (congrArg some (by kernel_rfl))
  f266 := Tryd.func38.trans (congrArg some (by kernel_rfl))
  f267 := Tryd.func32.trans (congrArg some (by kernel_rfl))
  f314 := Tryd.func39.trans (congrArg some (by kernel_rfl))
  t0 := Tryd.underlying0
  a0 := Tryd.isAgg0
  z0 := Tryd.sizeOf0
  v0 := Tryd.zeroValue0
  t3 := Tryd.underlying3
  a3 := Tryd.isAgg3
  z3 := Tryd.sizeOf3
  v3 := Tryd.zeroValue3
  t4 := Tryd.underlying4
  a4 := Tryd.isAgg4
  z4 := Tryd.sizeOf4
  v4 := Tryd.zeroValue4
  t5 := Tryd.underlying5
  a5 := Tryd.isAgg5
  z5 := Tryd.sizeOf5
  v5 := Tryd.zeroValue5
  t9 := Tryd.underlying9
  a9 := Tryd.isAgg9
  z9 := Tryd.sizeOf9
  v9 := Tryd.zeroValue9
  t46 := Tryd.underlying46
  a46 := Tryd.isAgg46
  z46 := Tryd.sizeOf46
  v46 := Tryd.zeroValue46
  t51 := Tryd.underlying56
  a51 := Tryd.isAgg56
  z51 := Tryd.sizeOf56
  v51 := Tryd.zeroValue56
  t146 := Tryd.underlying57
  a146 := Tryd.isAgg57
  z146 := Tryd.sizeOf57
  v146 := Tryd.zeroValue57
  g1 := by kernel_rfl }
def Tryd.lays264_ren : Go.Shelf.Ren := ⟨fun | 264 => 71 | n => n, fun | 53 => 28 | 46 => 46 | n => n, fun | n => n⟩
theorem Tryd.lays264 : Go.Proofs.Lays.n264 Tryd.prog Tryd.lays264_ren := {
  mixed := by kernel_rfl
  f264 := Tryd.func71.trans (congrArg some (by kernel_rfl))
  t46 := Tryd.underlying46
  a46 := Tryd.isAgg46
  z46 := Tryd.sizeOf46
  v46 := Tryd.zeroValue46
  t53 := Tryd.underlying28
  a53 := Tryd.isAgg28
  z53 := Tryd.sizeOf28
  v53 := Tryd.zeroValue28 }
end Go.Proofs
