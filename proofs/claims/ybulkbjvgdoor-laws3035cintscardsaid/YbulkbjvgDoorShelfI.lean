/-
  DERIVED: THE SHELF's CONTRACTS AT THIS DUMP, IN PLAIN WORDS (tools/lay-plain.mjs out of 'YbadSrcI.lean', which tools/lay-shelf.mjs wrote): THE SAME DECLARATIONS UNDER THE SAME NAMES: 'import', 'namespace', 'open', 'def', 'theorem' AND NOTHING ELSE: no command of the shelf's: FOR A HAND-IN. Each laying: the table of numbers ('.._ren') and one theorem, a field a fact of the dump's own or the kernel's comparison; each contract: ONE APPLICATION.
-/
import Derived.Shelf.Sort.Plain
import Derived.Shelf.Slices.Clone
import Derived.Shelf.Slices.CompactI
import Derived.Shelf.Slices.In.SortNone
import Derived.Test.YbulkbjvgDoorProg
namespace Go.Proofs
open Go.Shelf
def Ybad.sortI_ren : Go.Shelf.Ren := ⟨fun | 189 => 15 | 125 => 19 | 257 => 27 | 128 => 36 | 129 => 37 | 294 => 41 | 295 => 42 | 296 => 43 | 297 => 44 | 298 => 45 | 299 => 46 | 216 => 47 | 300 => 48 | 301 => 49 | 328 => 55 | 329 => 51 | 330 => 52 | 331 => 56 | 332 => 57 | 215 => 40 | 343 => 59 | n => n, fun | 28 => 22 | 3 => 3 | 46 => 48 | 0 => 0 | 51 => 64 | 53 => 66 | 4 => 4 | 183 => 58 | 182 => 57 | 131 => 44 | 5 => 5 | 9 => 9 | 218 => 80 | 222 => 84 | 228 => 88 | 229 => 89 | n => n, fun | n => n⟩
set_option maxRecDepth 1000000 in
theorem Ybad.sortI : Go.Proofs.Lays.n189 Ybad.prog Ybad.sortI_ren := {
  mixed := by kernel_rfl
  f125 := Ybad.func19.trans (congrArg some (by kernel_rfl))
  f128 := Ybad.func36.trans (congrArg some (by kernel_rfl))
  f129 := Ybad.func37.trans (congrArg some (by kernel_rfl))
  f189 := Ybad.func15.trans (congrArg some (by kernel_rfl))
  f215 := Ybad.func40.trans (congrArg some (by kernel_rfl))
  f216 := Ybad.func47.trans (congrArg some (by kernel_rfl))
  f257 := Ybad.func27.trans (congrArg some (by kernel_rfl))
  f294 := Ybad.func41.trans (congrArg some (by kernel_rfl))
  f295 := Ybad.func42.trans (congrArg some (by kernel_rfl))
  f296 := Ybad.func43.trans (congrArg some (by kernel_rfl))
  f297 := Ybad.func44.trans (congrArg some (by kernel_rfl))
  f298 := Ybad.func45.trans (congrArg some (by kernel_rfl))
  f299 := Ybad.func46.trans (congrArg some (by kernel_rfl))
  f300 := Ybad.func48.trans (congrArg some (by kernel_rfl))
  f301 := Ybad.func49.trans (congrArg some (by kernel_rfl))
  f328 := Ybad.func55.trans (congrArg some (by kernel_rfl))
  f329 := Ybad.func51.trans (congrArg some (by kernel_rfl))
  f330 := Ybad.func52.trans (congrArg some (by kernel_rfl))
  f331 := Ybad.func56.trans (congrArg some (by kernel_rfl))
  f332 := Ybad.func57.trans (congrArg some (by kernel_rfl))
  f343 := Ybad.func59.trans (congrArg some (by kernel_rfl))
  t0 := Ybad.underlying0
  a0 := Ybad.isAgg0
  z0 := Ybad.sizeOf0
  v0 := Ybad.zeroValue0
  t3 := Ybad.underlying3
  a3 := Ybad.isAgg3
  z3 := Ybad.sizeOf3
  v3 := Ybad.zeroValue3
  t4 := Ybad.underlying4
  a4 := Ybad.isAgg4
  z4 := Ybad.sizeOf4
  v4 := Ybad.zeroValue4
  t5 := Ybad.underlying5
  a5 := Ybad.isAgg5
  z5 := Ybad.sizeOf5
  v5 := Ybad.zeroValue5
  t9 := Ybad.underlying9
  a9 := Ybad.isAgg9
  z9 := Ybad.sizeOf9
  v9 := Ybad.zeroValue9
  t28 := Ybad.underlying22
  a28 := Ybad.isAgg22
  z28 := Ybad.sizeOf22
  v28 := Ybad.zeroValue22
  t46 := Ybad.underlying48
  a46 := Ybad.isAgg48
  z46 := Ybad.sizeOf48
  v46 := Ybad.zeroValue48
  t51 := Ybad.underlying64
  a51 := Ybad.isAgg64
  z51 := Ybad.sizeOf64
  v51 := Ybad.zeroValue64
  t53 := Ybad.underlying66
  a53 := Ybad.isAgg66
  z53 := Ybad.sizeOf66
  v53 := Ybad.zeroValue66
  t131 := Ybad.underlying44
  a131 := Ybad.isAgg44
  z131 := Ybad.sizeOf44
  v131 := Ybad.zeroValue44
  t182 := Ybad.underlying57
  a182 := Ybad.isAgg57
  z182 := Ybad.sizeOf57
  v182 := Ybad.zeroValue57
  t183 := Ybad.underlying58
  a183 := Ybad.isAgg58
  z183 := Ybad.sizeOf58
  v183 := Ybad.zeroValue58
  t218 := Ybad.underlying80
  a218 := Ybad.isAgg80
  z218 := Ybad.sizeOf80
  v218 := Ybad.zeroValue80
  t222 := Ybad.underlying84
  a222 := Ybad.isAgg84
  z222 := Ybad.sizeOf84
  v222 := Ybad.zeroValue84
  t228 := Ybad.underlying88
  a228 := Ybad.isAgg88
  z228 := Ybad.sizeOf88
  v228 := Ybad.zeroValue88
  t229 := Ybad.underlying89
  a229 := Ybad.isAgg89
  z229 := Ybad.sizeOf89
  v229 := Ybad.zeroValue89 }
def Ybad.cloneI_ren : Go.Shelf.Ren := ⟨fun | 15 => 14 | n => n, fun | 22 => 22 | 3 => 3 | 4 => 4 | n => n, fun | n => n⟩
set_option maxRecDepth 1000000 in
theorem Ybad.cloneI : Go.Proofs.Lays2.n15 Ybad.prog Ybad.cloneI_ren := {
  mixed := by kernel_rfl
  f15 := Ybad.func14.trans (congrArg some (by kernel_rfl))
  t3 := Ybad.underlying3
  a3 := Ybad.isAgg3
  z3 := Ybad.sizeOf3
  v3 := Ybad.zeroValue3
  t4 := Ybad.underlying4
  a4 := Ybad.isAgg4
  z4 := Ybad.sizeOf4
  v4 := Ybad.zeroValue4
  t22 := Ybad.underlying22
  a22 := Ybad.isAgg22
  z22 := Ybad.sizeOf22
  v22 := Ybad.zeroValue22
  i3 := by kernel_rfl }
def Ybad.compactI_ren : Go.Shelf.Ren := ⟨fun | 20 => 16 | n => n, fun | 22 => 22 | 3 => 3 | 4 => 4 | 0 => 0 | n => n, fun | n => n⟩
set_option maxRecDepth 1000000 in
theorem Ybad.compactI : Go.Proofs.Lays2.n20 Ybad.prog Ybad.compactI_ren := {
  mixed := by kernel_rfl
  f20 := Ybad.func16.trans (congrArg some (by kernel_rfl))
  t0 := Ybad.underlying0
  a0 := Ybad.isAgg0
  z0 := Ybad.sizeOf0
  v0 := Ybad.zeroValue0
  t3 := Ybad.underlying3
  a3 := Ybad.isAgg3
  z3 := Ybad.sizeOf3
  v3 := Ybad.zeroValue3
  t4 := Ybad.underlying4
  a4 := Ybad.isAgg4
  z4 := Ybad.sizeOf4
  v4 := Ybad.zeroValue4
  t22 := Ybad.underlying22
  a22 := Ybad.isAgg22
  z22 := Ybad.sizeOf22
  v22 := Ybad.zeroValue22
  i3 := by kernel_rfl }
end Go.Proofs
