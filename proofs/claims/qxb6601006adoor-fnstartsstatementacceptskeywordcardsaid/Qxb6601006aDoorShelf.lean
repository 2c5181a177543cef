/-
  DERIVED: THE SHELF's CONTRACTS AT THIS DUMP, IN PLAIN WORDS (tools/lay-plain.mjs out of 'Qxb6601006aDoorShelf.lean', which tools/lay-shelf.mjs wrote): THE SAME DECLARATIONS UNDER THE SAME NAMES: 'import', 'namespace', 'open', 'def', 'theorem' AND NOTHING ELSE: no command of the shelf's: FOR A HAND-IN. Each laying: the table of numbers ('.._ren') and one theorem, a field a fact of the dump's own or the kernel's comparison; each contract: ONE APPLICATION.
-/
import Derived.Shelf.Strings.SlTrimAscii
import Derived.Shelf.Strings.Shaped
import Derived.Shelf.Strings.LastIndex
import Derived.Shelf.LaysM
import Derived.Ground.NamesProg
import Derived.Test.Qxb6601006aDoorProg
namespace Go.Proofs
open Go.Shelf
def Tryd.lays162_ren : Go.Shelf.Ren := ⟨fun | 162 => 18 | 232 => 24 | 227 => 25 | 234 => 26 | 236 => 27 | 228 => 33 | 271 => 34 | 151 => 35 | 120 => 38 | 197 => 39 | 152 => 40 | 260 => 45 | 137 => 46 | 119 => 47 | 224 => 43 | 225 => 42 | 217 => 41 | 266 => 48 | n => n, fun | 9 => 9 | 4 => 4 | 3 => 3 | 5 => 5 | 117 => 37 | 116 => 36 | 0 => 0 | 124 => 40 | 21 => 21 | 105 => 44 | 46 => 28 | 119 => 54 | 139 => 57 | 138 => 56 | n => n, fun | 3 => 1 | 4 => 2 | n => n⟩
theorem Tryd.lays162 : Go.Proofs.Lays.n162 Tryd.prog Tryd.lays162_ren := {
  mixed := by kernel_rfl
  f119 := Tryd.func47.trans (congrArg some (by kernel_rfl))
  f120 := Tryd.func38.trans (congrArg some (by kernel_rfl))
  f137 := Tryd.func46.trans (congrArg some (by kernel_rfl))
  f151 := Tryd.func35.trans (congrArg some (by kernel_rfl))
  f152 := Tryd.func40.trans (congrArg some (by kernel_rfl))
  f162 := Tryd.func18.trans (congrArg some (by kernel_rfl))
  f197 := Tryd.func39.trans (congrArg some (by kernel_rfl))
  f217 := Tryd.func41.trans (congrArg some (by kernel_rfl))
  f224 := Tryd.func43.trans (congrArg some (by kernel_rfl))
  f225 := Tryd.func42.trans (congrArg some (by kernel_rfl))
  f227 := Tryd.func25.trans (congrArg some (by kernel_rfl))
  f228 := Tryd.func33.trans (congrArg some (by kernel_rfl))
  f232 := Tryd.func24.trans (congrArg some (by kernel_rfl))
  f234 := Tryd.func26.trans (congrArg some (by kernel_rfl))
  f236 := Tryd.func27.trans (congrArg some (by kernel_rfl))
  f260 := Tryd.func45.trans (congrArg some (by kernel_rfl))
  f266 := Tryd.func48.trans (congrArg some (by kernel_rfl))
  f271 := Tryd.func34.trans (congrArg some (by kernel_rfl))
  t0 := Tryd.underlying0
  a0 := Tryd.isAgg0
  z0 := Tryd.sizeOf0
  v0 := Tryd.zeroValue0
  t3 := Tryd.underlying3
  a3 := Tryd.isAgg3
  z3 := Tryd.sizeOf3
  v3 := Tryd.zeroValue3
  t4 := Tryd.underlying4
  a4 := Tryd.isAgg4
  z4 := Tryd.sizeOf4
  v4 := Tryd.zeroValue4
  t5 := Tryd.underlying5
  a5 := Tryd.isAgg5
  z5 := Tryd.sizeOf5
  v5 := Tryd.zeroValue5
  t9 := Tryd.underlying9
  a9 := Tryd.isAgg9
  z9 := Tryd.sizeOf9
  v9 := Tryd.zeroValue9
  t21 := Tryd.underlying21
  a21 := Tryd.isAgg21
  z21 := Tryd.sizeOf21
  v21 := Tryd.zeroValue21
  t46 := Tryd.underlying28
  a46 := Tryd.isAgg28
  z46 := Tryd.sizeOf28
  v46 := Tryd.zeroValue28
  t105 := Tryd.underlying44
  a105 := Tryd.isAgg44
  z105 := Tryd.sizeOf44
  v105 := Tryd.zeroValue44
  t116 := Tryd.underlying36
  a116 := Tryd.isAgg36
  z116 := Tryd.sizeOf36
  t117 := Tryd.underlying37
  a117 := Tryd.isAgg37
  z117 := Tryd.sizeOf37
  v117 := Tryd.zeroValue37
  t119 := Tryd.underlying54
  a119 := Tryd.isAgg54
  z119 := Tryd.sizeOf54
  t124 := Tryd.underlying40
  a124 := Tryd.isAgg40
  z124 := Tryd.sizeOf40
  v124 := Tryd.zeroValue40
  t138 := Tryd.underlying56
  a138 := Tryd.isAgg56
  z138 := Tryd.sizeOf56
  v138 := Tryd.zeroValue56
  t139 := Tryd.underlying57
  a139 := Tryd.isAgg57
  z139 := Tryd.sizeOf57
  v139 := Tryd.zeroValue57
  g3 := by kernel_rfl
  g4 := by kernel_rfl }
def Tryd.laysM144_ren : Go.Shelf.Ren := ⟨fun | 144 => 21 | 143 => 29 | 219 => 36 | 217 => 41 | 225 => 42 | 224 => 43 | 267 => 44 | 266 => 48 | 314 => 49 | n => n, fun | 9 => 9 | 4 => 4 | 3 => 3 | 5 => 5 | 46 => 28 | 146 => 52 | 51 => 51 | n => n, fun | 1 => 0 | n => n⟩
theorem Tryd.laysM144 : Go.Proofs.LaysM.n144 Tryd.prog Tryd.laysM144_ren := {
  mixed := by kernel_rfl
  f143 := Tryd.func29.trans (congrArg some (by kernel_rfl))
  f144 := Tryd.func21.trans (congrArg some (by kernel_rfl))
  f217 := Tryd.func41.trans (congrArg some (by kernel_rfl))
  f219 := Tryd.func36.trans (congrArg some (by kernel_rfl))
  f224 := Tryd.func43.trans (congrArg some (by kernel_rfl))
  f225 := Tryd.func42.trans (congrArg some (by kernel_rfl))
  f266 := Tryd.func48.trans (congrArg some (by kernel_rfl))
  f267 := Tryd.func44.trans (congrArg some (by kernel_rfl))
  f314 := Tryd.func49.trans (congrArg some (by kernel_rfl))
  t3 := Tryd.underlying3
  a3 := Tryd.isAgg3
  z3 := Tryd.sizeOf3
  v3 := Tryd.zeroValue3
  t4 := Tryd.underlying4
  a4 := Tryd.isAgg4
  z4 := Tryd.sizeOf4
  v4 := Tryd.zeroValue4
  t5 := Tryd.underlying5
  a5 := Tryd.isAgg5
  z5 := Tryd.sizeOf5
  v5 := Tryd.zeroValue5
  t9 := Tryd.underlying9
  a9 := Tryd.isAgg9
  z9 := Tryd.sizeOf9
  v9 := Tryd.zeroValue9
  t46 := Tryd.underlying28
  a46 := Tryd.isAgg28
  z46 := Tryd.sizeOf28
  v46 := Tryd.zeroValue28
  t51 := Tryd.underlying51
  a51 := Tryd.isAgg51
  z51 := Tryd.sizeOf51
  v51 := Tryd.zeroValue51
  t146 := Tryd.underlying52
  a146 := Tryd.isAgg52
  z146 := Tryd.sizeOf52
  v146 := Tryd.zeroValue52
  g1 := by kernel_rfl
  i3 := by kernel_rfl
  i4 := by kernel_rfl
  i5 := by kernel_rfl
  i9 := by kernel_rfl
  i46 := by kernel_rfl
  i51 := by kernel_rfl
  i146 := by kernel_rfl
  m1 := by kernel_rfl
  s1_3 := fun w h => Go.Proofs.cell_of_shapedOpen_int (zero := #[.int .i64 0]) (t := 3) h (of_decide_eq_true (by kernel_rfl)) (by kernel_rfl) rfl (by kernel_rfl) (by kernel_rfl) Tryd.underlying3 }
def Tryd.lays149_ren : Go.Shelf.Ren := ⟨fun | 149 => 20 | 222 => 28 | n => n, fun | 9 => 9 | 5 => 5 | 3 => 3 | 4 => 4 | n => n, fun | n => n⟩
theorem Tryd.lays149 : Go.Proofs.Lays.n149 Tryd.prog Tryd.lays149_ren := {
  mixed := by kernel_rfl
  f149 := Tryd.func20.trans (congrArg some (by kernel_rfl))
  f222 := Tryd.func28.trans (congrArg some (by kernel_rfl))
  t3 := Tryd.underlying3
  a3 := Tryd.isAgg3
  z3 := Tryd.sizeOf3
  v3 := Tryd.zeroValue3
  t4 := Tryd.underlying4
  a4 := Tryd.isAgg4
  z4 := Tryd.sizeOf4
  v4 := Tryd.zeroValue4
  t5 := Tryd.underlying5
  a5 := Tryd.isAgg5
  z5 := Tryd.sizeOf5
  v5 := Tryd.zeroValue5
  t9 := Tryd.underlying9
  a9 := Tryd.isAgg9
  z9 := Tryd.sizeOf9
  v9 := Tryd.zeroValue9 }
end Go.Proofs
