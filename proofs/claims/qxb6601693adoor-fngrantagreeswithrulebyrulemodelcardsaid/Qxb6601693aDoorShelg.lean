/-
  DERIVED: THE SHELF's CONTRACTS AT THIS DUMP, IN PLAIN WORDS (tools/lay-plain.mjs out of 'Qxb6601693aDoorShelg.lean', which tools/lay-shelf.mjs wrote): THE SAME DECLARATIONS UNDER THE SAME NAMES: 'import', 'namespace', 'open', 'def', 'theorem' AND NOTHING ELSE: no command of the shelf's: FOR A HAND-IN. Each laying: the table of numbers ('.._ren') and one theorem, a field a fact of the dump's own or the kernel's comparison; each contract: ONE APPLICATION.
-/
import Derived.Shelf.Slices.Turned
import Derived.Shelf.Slices.Clone
import Derived.Shelf.Slices.CompactS
import Derived.Shelf.Sort.Plain
import Derived.Ground.NamesProg
import Derived.Ground.Names2Prog
import Derived.Test.Qxb6601693aDoorProg
namespace Go.Proofs
open Go.Shelf
def Tryd.lays110_ren : Go.Shelf.Ren := ⟨fun | 110 => 47 | 109 => 63 | n => n, fun | 31 => 22 | 9 => 9 | 4 => 4 | 3 => 3 | 0 => 0 | n => n, fun | n => n⟩
theorem Tryd.lays110 : Go.Proofs.Lays.n110 Tryd.prog Tryd.lays110_ren := {
  mixed := by kernel_rfl
  f109 := Tryd.func63.trans (congrArg some (by kernel_rfl))
  f110 := Tryd.func47.trans (congrArg some (by kernel_rfl))
  t0 := Tryd.underlying0
  a0 := Tryd.isAgg0
  z0 := Tryd.sizeOf0
  v0 := Tryd.zeroValue0
  t3 := Tryd.underlying3
  a3 := Tryd.isAgg3
  z3 := Tryd.sizeOf3
  v3 := Tryd.zeroValue3
  t4 := Tryd.underlying4
  a4 := Tryd.isAgg4
  z4 := Tryd.sizeOf4
  v4 := Tryd.zeroValue4
  t9 := Tryd.underlying9
  a9 := Tryd.isAgg9
  z9 := Tryd.sizeOf9
  v9 := Tryd.zeroValue9
  t31 := Tryd.underlying22
  a31 := Tryd.isAgg22
  z31 := Tryd.sizeOf22
  v31 := Tryd.zeroValue22 }
def Tryd.lays190_ren : Go.Shelf.Ren := ⟨fun | 190 => 48 | 125 => 65 | 258 => 64 | 128 => 84 | 129 => 85 | 302 => 75 | 303 => 76 | 304 => 77 | 305 => 78 | 306 => 79 | 307 => 80 | 308 => 81 | 309 => 82 | 310 => 83 | 333 => 93 | 329 => 94 | 330 => 95 | 334 => 96 | 335 => 97 | 336 => 98 | 344 => 99 | n => n, fun | 31 => 22 | 9 => 9 | 3 => 3 | 46 => 98 | 0 => 0 | 51 => 113 | 53 => 115 | 4 => 4 | 183 => 107 | 182 => 106 | 131 => 87 | 5 => 5 | 218 => 121 | 222 => 125 | 228 => 131 | 229 => 132 | n => n, fun | n => n⟩
theorem Tryd.lays190 : Go.Proofs.Lays.n190 Tryd.prog Tryd.lays190_ren := {
  mixed := by kernel_rfl
  f125 := Tryd.func65.trans (congrArg some (by kernel_rfl))
  f128 := Tryd.func84.trans (congrArg some (by kernel_rfl))
  f129 := Tryd.func85.trans (congrArg some (by kernel_rfl))
  f190 := Tryd.func48.trans (congrArg some (by kernel_rfl))
  f258 := Tryd.func64.trans (congrArg some (by kernel_rfl))
  f302 := Tryd.func75.trans (congrArg some (by kernel_rfl))
  f303 := Tryd.func76.trans (congrArg some (by kernel_rfl))
  f304 := Tryd.func77.trans (congrArg some (by kernel_rfl))
  f305 := Tryd.func78.trans (congrArg some (by kernel_rfl))
  f306 := Tryd.func79.trans (congrArg some (by kernel_rfl))
  f307 := Tryd.func80.trans (congrArg some (by kernel_rfl))
  f308 := Tryd.func81.trans (congrArg some (by kernel_rfl))
  f309 := Tryd.func82.trans (congrArg some (by kernel_rfl))
  f310 := Tryd.func83.trans (congrArg some (by kernel_rfl))
  f329 := Tryd.func94.trans (congrArg some (by kernel_rfl))
  f330 := Tryd.func95.trans (congrArg some (by kernel_rfl))
  f333 := Tryd.func93.trans (congrArg some (by kernel_rfl))
  f334 := Tryd.func96.trans (congrArg some (by kernel_rfl))
  f335 := Tryd.func97.trans (congrArg some (by kernel_rfl))
  f336 := Tryd.func98.trans (congrArg some (by kernel_rfl))
  f344 := Tryd.func99.trans (congrArg some (by kernel_rfl))
  t0 := Tryd.underlying0
  a0 := Tryd.isAgg0
  z0 := Tryd.sizeOf0
  v0 := Tryd.zeroValue0
  t3 := Tryd.underlying3
  a3 := Tryd.isAgg3
  z3 := Tryd.sizeOf3
  v3 := Tryd.zeroValue3
  t4 := Tryd.underlying4
  a4 := Tryd.isAgg4
  z4 := Tryd.sizeOf4
  v4 := Tryd.zeroValue4
  t5 := Tryd.underlying5
  a5 := Tryd.isAgg5
  z5 := Tryd.sizeOf5
  v5 := Tryd.zeroValue5
  t9 := Tryd.underlying9
  a9 := Tryd.isAgg9
  z9 := Tryd.sizeOf9
  v9 := Tryd.zeroValue9
  t31 := Tryd.underlying22
  a31 := Tryd.isAgg22
  z31 := Tryd.sizeOf22
  v31 := Tryd.zeroValue22
  t46 := Tryd.underlying98
  a46 := Tryd.isAgg98
  z46 := Tryd.sizeOf98
  v46 := Tryd.zeroValue98
  t51 := Tryd.underlying113
  a51 := Tryd.isAgg113
  z51 := Tryd.sizeOf113
  v51 := Tryd.zeroValue113
  t53 := Tryd.underlying115
  a53 := Tryd.isAgg115
  z53 := Tryd.sizeOf115
  v53 := Tryd.zeroValue115
  t131 := Tryd.underlying87
  a131 := Tryd.isAgg87
  z131 := Tryd.sizeOf87
  v131 := Tryd.zeroValue87
  t182 := Tryd.underlying106
  a182 := Tryd.isAgg106
  z182 := Tryd.sizeOf106
  v182 := Tryd.zeroValue106
  t183 := Tryd.underlying107
  a183 := Tryd.isAgg107
  z183 := Tryd.sizeOf107
  v183 := Tryd.zeroValue107
  t218 := Tryd.underlying121
  a218 := Tryd.isAgg121
  z218 := Tryd.sizeOf121
  v218 := Tryd.zeroValue121
  t222 := Tryd.underlying125
  a222 := Tryd.isAgg125
  z222 := Tryd.sizeOf125
  v222 := Tryd.zeroValue125
  t228 := Tryd.underlying131
  a228 := Tryd.isAgg131
  z228 := Tryd.sizeOf131
  v228 := Tryd.zeroValue131
  t229 := Tryd.underlying132
  a229 := Tryd.isAgg132
  z229 := Tryd.sizeOf132
  v229 := Tryd.zeroValue132 }
def Tryd.lays194_ren : Go.Shelf.Ren := ⟨fun | 194 => 49 | n => n, fun | 31 => 22 | 9 => 9 | 3 => 3 | 4 => 4 | 0 => 0 | n => n, fun | n => n⟩
theorem Tryd.lays194 : Go.Proofs.Lays.n194 Tryd.prog Tryd.lays194_ren := {
  mixed := by kernel_rfl
  f194 := Tryd.func49.trans (congrArg some (by kernel_rfl))
  t0 := Tryd.underlying0
  a0 := Tryd.isAgg0
  z0 := Tryd.sizeOf0
  v0 := Tryd.zeroValue0
  t3 := Tryd.underlying3
  a3 := Tryd.isAgg3
  z3 := Tryd.sizeOf3
  v3 := Tryd.zeroValue3
  t4 := Tryd.underlying4
  a4 := Tryd.isAgg4
  z4 := Tryd.sizeOf4
  v4 := Tryd.zeroValue4
  t9 := Tryd.underlying9
  a9 := Tryd.isAgg9
  z9 := Tryd.sizeOf9
  v9 := Tryd.zeroValue9
  t31 := Tryd.underlying22
  a31 := Tryd.isAgg22
  z31 := Tryd.sizeOf22
  v31 := Tryd.zeroValue22 }
def Tryd.lays2n16_ren : Go.Shelf.Ren := ⟨fun | 16 => 61 | n => n, fun | 24 => 22 | 9 => 9 | 4 => 4 | n => n, fun | n => n⟩
theorem Tryd.lays2n16 : Go.Proofs.Lays2.n16 Tryd.prog Tryd.lays2n16_ren := {
  mixed := by kernel_rfl
  f16 := Tryd.func61.trans (congrArg some (by kernel_rfl))
  t4 := Tryd.underlying4
  a4 := Tryd.isAgg4
  z4 := Tryd.sizeOf4
  v4 := Tryd.zeroValue4
  t9 := Tryd.underlying9
  a9 := Tryd.isAgg9
  z9 := Tryd.sizeOf9
  v9 := Tryd.zeroValue9
  t24 := Tryd.underlying22
  a24 := Tryd.isAgg22
  z24 := Tryd.sizeOf22
  v24 := Tryd.zeroValue22
  i9 := by kernel_rfl }
end Go.Proofs
