/-
  DERIVED: THE SHELF's CONTRACTS AT THIS DUMP, IN PLAIN WORDS (tools/lay-plain.mjs out of 'Qxb6601375aDoorShelf.lean', which tools/lay-shelf.mjs wrote): THE SAME DECLARATIONS UNDER THE SAME NAMES: 'import', 'namespace', 'open', 'def', 'theorem' AND NOTHING ELSE: no command of the shelf's: FOR A HAND-IN. Each laying: the table of numbers ('.._ren') and one theorem, a field a fact of the dump's own or the kernel's comparison; each contract: ONE APPLICATION.
-/
import Derived.Shelf.Strings.Trim
import Derived.Shelf.Strings.Prefix
import Derived.Shelf.Small.Strs
import Derived.Ground.NamesProg
import Derived.Test.Qxb6601375aDoorProg
namespace Go.Proofs
open Go.Shelf
def Tryd.lays161_ren : Go.Shelf.Ren := ⟨fun | 161 => 16 | 231 => 23 | 227 => 24 | 233 => 25 | 235 => 26 | 228 => 30 | 197 => 31 | 151 => 32 | 260 => 34 | 152 => 35 | 137 => 19 | 119 => 36 | 224 => 37 | 225 => 38 | 217 => 28 | 266 => 33 | n => n, fun | 9 => 9 | 4 => 4 | 3 => 3 | 5 => 5 | 117 => 41 | 116 => 40 | 0 => 0 | 124 => 44 | 105 => 46 | 21 => 21 | 119 => 50 | 46 => 51 | 139 => 54 | 138 => 53 | n => n, fun | 3 => 1 | 4 => 2 | n => n⟩
theorem Tryd.lays161 : Go.Proofs.Lays.n161 Tryd.prog Tryd.lays161_ren := {
  mixed := by kernel_rfl
  f119 := Tryd.func36.trans (congrArg some (by kernel_rfl))
  f137 := Tryd.func19.trans (congrArg some (by kernel_rfl))
  f151 := Tryd.func32.trans (congrArg some (by kernel_rfl))
  f152 := Tryd.func35.trans (congrArg some (by kernel_rfl))
  f161 := Tryd.func16.trans (congrArg some (by kernel_rfl))
  f197 := Tryd.func31.trans (congrArg some (by kernel_rfl))
  f217 := Tryd.func28.trans (congrArg some (by kernel_rfl))
  f224 := Tryd.func37.trans (congrArg some (by kernel_rfl))
  f225 := Tryd.func38.trans (congrArg some (by kernel_rfl))
  f227 := Tryd.func24.trans (congrArg some (by kernel_rfl))
  f228 := Tryd.func30.trans (congrArg some (by kernel_rfl))
  f231 := Tryd.func23.trans (congrArg some (by kernel_rfl))
  f233 := Tryd.func25.trans (congrArg some (by kernel_rfl))
  f235 := Tryd.func26.trans (congrArg some (by kernel_rfl))
  f260 := Tryd.func34.trans (congrArg some (by kernel_rfl))
  f266 := Tryd.func33.trans (congrArg some (by kernel_rfl))
  t0 := Tryd.underlying0
  a0 := Tryd.isAgg0
  z0 := Tryd.sizeOf0
  v0 := Tryd.zeroValue0
  t3 := Tryd.underlying3
  a3 := Tryd.isAgg3
  z3 := Tryd.sizeOf3
  v3 := Tryd.zeroValue3
  t4 := Tryd.underlying4
  a4 := Tryd.isAgg4
  z4 := Tryd.sizeOf4
  v4 := Tryd.zeroValue4
  t5 := Tryd.underlying5
  a5 := Tryd.isAgg5
  z5 := Tryd.sizeOf5
  v5 := Tryd.zeroValue5
  t9 := Tryd.underlying9
  a9 := Tryd.isAgg9
  z9 := Tryd.sizeOf9
  v9 := Tryd.zeroValue9
  t21 := Tryd.underlying21
  a21 := Tryd.isAgg21
  z21 := Tryd.sizeOf21
  v21 := Tryd.zeroValue21
  t46 := Tryd.underlying51
  a46 := Tryd.isAgg51
  z46 := Tryd.sizeOf51
  v46 := Tryd.zeroValue51
  t105 := Tryd.underlying46
  a105 := Tryd.isAgg46
  z105 := Tryd.sizeOf46
  v105 := Tryd.zeroValue46
  t116 := Tryd.underlying40
  a116 := Tryd.isAgg40
  z116 := Tryd.sizeOf40
  t117 := Tryd.underlying41
  a117 := Tryd.isAgg41
  z117 := Tryd.sizeOf41
  v117 := Tryd.zeroValue41
  t119 := Tryd.underlying50
  a119 := Tryd.isAgg50
  z119 := Tryd.sizeOf50
  t124 := Tryd.underlying44
  a124 := Tryd.isAgg44
  z124 := Tryd.sizeOf44
  v124 := Tryd.zeroValue44
  t138 := Tryd.underlying53
  a138 := Tryd.isAgg53
  z138 := Tryd.sizeOf53
  v138 := Tryd.zeroValue53
  t139 := Tryd.underlying54
  a139 := Tryd.isAgg54
  z139 := Tryd.sizeOf54
  v139 := Tryd.zeroValue54
  g3 := by kernel_rfl
  g4 := by kernel_rfl }
def Tryd.lays137_ren : Go.Shelf.Ren := ⟨fun | 137 => 19 | 217 => 28 | 266 => 33 | n => n, fun | 9 => 9 | 5 => 5 | 3 => 3 | n => n, fun | n => n⟩
theorem Tryd.lays137 : Go.Proofs.Lays.n137 Tryd.prog Tryd.lays137_ren := {
  mixed := by kernel_rfl
  f137 := Tryd.func19.trans (congrArg some (by kernel_rfl))
  f217 := Tryd.func28.trans (congrArg some (by kernel_rfl))
  f266 := Tryd.func33.trans (congrArg some (by kernel_rfl))
  t3 := Tryd.underlying3
  a3 := Tryd.isAgg3
  z3 := Tryd.sizeOf3
  v3 := Tryd.zeroValue3
  t5 := Tryd.underlying5
  a5 := Tryd.isAgg5
  z5 := Tryd.sizeOf5
  v5 := Tryd.zeroValue5
  t9 := Tryd.underlying9
  a9 := Tryd.isAgg9
  z9 := Tryd.sizeOf9
  v9 := Tryd.zeroValue9 }
def Tryd.lays99_ren : Go.Shelf.Ren := ⟨fun | 99 => 17 | 206 => 27 | n => n, fun | 9 => 9 | 4 => 4 | 3 => 3 | n => n, fun | n => n⟩
theorem Tryd.lays99 : Go.Proofs.Lays.n99 Tryd.prog Tryd.lays99_ren := {
  mixed := by kernel_rfl
  f99 := Tryd.func17.trans (congrArg some (by kernel_rfl))
  f206 := Tryd.func27.trans (congrArg some (by kernel_rfl))
  t3 := Tryd.underlying3
  a3 := Tryd.isAgg3
  z3 := Tryd.sizeOf3
  v3 := Tryd.zeroValue3
  t4 := Tryd.underlying4
  a4 := Tryd.isAgg4
  z4 := Tryd.sizeOf4
  v4 := Tryd.zeroValue4
  t9 := Tryd.underlying9
  a9 := Tryd.isAgg9
  z9 := Tryd.sizeOf9
  v9 := Tryd.zeroValue9 }
def Tryd.lays102_ren : Go.Shelf.Ren := ⟨fun | 102 => 11 | 209 => 20 | 207 => 29 | n => n, fun | 9 => 9 | 4 => 4 | 3 => 3 | n => n, fun | n => n⟩
theorem Tryd.lays102 : Go.Proofs.Lays.n102 Tryd.prog Tryd.lays102_ren := {
  mixed := by kernel_rfl
  f102 := Tryd.func11.trans (congrArg some (by kernel_rfl))
  f207 := Tryd.func29.trans (congrArg some (by kernel_rfl))
  f209 := Tryd.func20.trans (congrArg some (by kernel_rfl))
  t3 := Tryd.underlying3
  a3 := Tryd.isAgg3
  z3 := Tryd.sizeOf3
  v3 := Tryd.zeroValue3
  t4 := Tryd.underlying4
  a4 := Tryd.isAgg4
  z4 := Tryd.sizeOf4
  v4 := Tryd.zeroValue4
  t9 := Tryd.underlying9
  a9 := Tryd.isAgg9
  z9 := Tryd.sizeOf9
  v9 := Tryd.zeroValue9 }
end Go.Proofs
