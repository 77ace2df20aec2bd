/- The shelf's contracts of slices.SortFunc and slices.Clone, laid at this dump in plain words by the kit's tool. -/
import Derived.Shelf.SlSortCmp.NoneTotal
import Derived.Shelf.SlicesE.Clone
import Derived.Test.YbulkbjvgDoorProg
namespace Go.Proofs
open Go.Shelf
def Ybad.sortV_ren : Go.Shelf.Ren := ⟨fun | 6 => 10 | 15 => 19 | 14 => 18 | 28 => 36 | 29 => 37 | 20 => 28 | 21 => 29 | 22 => 30 | 23 => 31 | 24 => 32 | 25 => 33 | 26 => 34 | 27 => 35 | 46 => 50 | 47 => 51 | 48 => 52 | 49 => 53 | 50 => 54 | 57 => 58 | n => n, fun | 22 => 23 | 24 => 28 | 25 => 38 | 3 => 3 | 39 => 48 | 0 => 0 | 53 => 64 | 55 => 66 | 4 => 4 | 46 => 58 | 45 => 57 | 50 => 44 | 5 => 5 | 9 => 9 | 66 => 80 | 70 => 84 | 76 => 88 | 77 => 89 | n => n, fun | n => n⟩
set_option maxRecDepth 1000000 in
theorem Ybad.sortV : Go.Proofs.SlLaysF0.n6 Ybad.prog Ybad.sortV_ren := {
  mixed := by kernel_rfl
  f6 := ⟨Ybad.f10.name, by decide, Ybad.func10.trans (congrArg some (by kernel_rfl))⟩
  f14 := ⟨Ybad.f18.name, by decide, Ybad.func18.trans (congrArg some (by kernel_rfl))⟩
  f15 := Ybad.func19.trans (congrArg some (by kernel_rfl))
  f20 := ⟨Ybad.f28.name, by decide, Ybad.func28.trans (congrArg some (by kernel_rfl))⟩
  f21 := ⟨Ybad.f29.name, by decide, Ybad.func29.trans (congrArg some (by kernel_rfl))⟩
  f22 := ⟨Ybad.f30.name, by decide, Ybad.func30.trans (congrArg some (by kernel_rfl))⟩
  f23 := ⟨Ybad.f31.name, by decide, Ybad.func31.trans (congrArg some (by kernel_rfl))⟩
  f24 := ⟨Ybad.f32.name, by decide, Ybad.func32.trans (congrArg some (by kernel_rfl))⟩
  f25 := ⟨Ybad.f33.name, by decide, Ybad.func33.trans (congrArg some (by kernel_rfl))⟩
  f26 := ⟨Ybad.f34.name, by decide, Ybad.func34.trans (congrArg some (by kernel_rfl))⟩
  f27 := ⟨Ybad.f35.name, by decide, Ybad.func35.trans (congrArg some (by kernel_rfl))⟩
  f28 := Ybad.func36.trans (congrArg some (by kernel_rfl))
  f29 := Ybad.func37.trans (congrArg some (by kernel_rfl))
  f46 := ⟨Ybad.f50.name, by decide, Ybad.func50.trans (congrArg some (by kernel_rfl))⟩
  f47 := Ybad.func51.trans (congrArg some (by kernel_rfl))
  f48 := Ybad.func52.trans (congrArg some (by kernel_rfl))
  f49 := ⟨Ybad.f53.name, by decide, Ybad.func53.trans (congrArg some (by kernel_rfl))⟩
  f50 := ⟨Ybad.f54.name, by decide, Ybad.func54.trans (congrArg some (by kernel_rfl))⟩
  f57 := ⟨Ybad.f58.name, by decide, Ybad.func58.trans (congrArg some (by kernel_rfl))⟩
  t0 := Ybad.underlying0
  a0 := Ybad.isAgg0
  z0 := Ybad.sizeOf0
  v0 := Ybad.zeroValue0
  t3 := Ybad.underlying3
  a3 := Ybad.isAgg3
  z3 := Ybad.sizeOf3
  v3 := Ybad.zeroValue3
  t4 := Ybad.underlying4
  a4 := Ybad.isAgg4
  z4 := Ybad.sizeOf4
  v4 := Ybad.zeroValue4
  t5 := Ybad.underlying5
  a5 := Ybad.isAgg5
  z5 := Ybad.sizeOf5
  v5 := Ybad.zeroValue5
  t9 := Ybad.underlying9
  a9 := Ybad.isAgg9
  z9 := Ybad.sizeOf9
  v9 := Ybad.zeroValue9
  t22 := Ybad.underlying23
  a22 := Ybad.isAgg23
  z22 := Ybad.sizeOf23
  v22 := Ybad.zeroValue23
  t25 := Ybad.underlying38
  a25 := Ybad.isAgg38
  z25 := Ybad.sizeOf38
  v25 := Ybad.zeroValue38
  t39 := Ybad.underlying48
  a39 := Ybad.isAgg48
  z39 := Ybad.sizeOf48
  v39 := Ybad.zeroValue48
  t45 := Ybad.underlying57
  a45 := Ybad.isAgg57
  z45 := Ybad.sizeOf57
  v45 := Ybad.zeroValue57
  t46 := Ybad.underlying58
  a46 := Ybad.isAgg58
  z46 := Ybad.sizeOf58
  v46 := Ybad.zeroValue58
  t50 := Ybad.underlying44
  a50 := Ybad.isAgg44
  z50 := Ybad.sizeOf44
  v50 := Ybad.zeroValue44
  t53 := Ybad.underlying64
  a53 := Ybad.isAgg64
  z53 := Ybad.sizeOf64
  v53 := Ybad.zeroValue64
  t55 := Ybad.underlying66
  a55 := Ybad.isAgg66
  z55 := Ybad.sizeOf66
  v55 := Ybad.zeroValue66
  t66 := Ybad.underlying80
  a66 := Ybad.isAgg80
  z66 := Ybad.sizeOf80
  v66 := Ybad.zeroValue80
  t70 := Ybad.underlying84
  a70 := Ybad.isAgg84
  z70 := Ybad.sizeOf84
  v70 := Ybad.zeroValue84
  t76 := Ybad.underlying88
  a76 := Ybad.isAgg88
  z76 := Ybad.sizeOf88
  v76 := Ybad.zeroValue88
  t77 := Ybad.underlying89
  a77 := Ybad.isAgg89
  z77 := Ybad.sizeOf89
  v77 := Ybad.zeroValue89 }
def Ybad.cloneV_ren : Go.Shelf.Ren := ⟨fun | 41 => 13 | n => n, fun | 22 => 23 | 23 => 28 | 4 => 4 | n => n, fun | n => n⟩
set_option maxRecDepth 1000000 in
theorem Ybad.cloneV : Go.Proofs.SlLaysE0.n41 Ybad.prog Ybad.cloneV_ren := {
  mixed := by kernel_rfl
  f41 := ⟨Ybad.f13.name, by decide, Ybad.func13.trans (congrArg some (by kernel_rfl))⟩
  t4 := Ybad.underlying4
  a4 := Ybad.isAgg4
  z4 := Ybad.sizeOf4
  v4 := Ybad.zeroValue4
  t22 := Ybad.underlying23
  a22 := Ybad.isAgg23
  z22 := Ybad.sizeOf23
  v22 := Ybad.zeroValue23 }
end Go.Proofs
