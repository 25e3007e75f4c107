/-
  slices.SortFunc at the pairs: the shelf's laying at this dump, in plain words (written by the kit's tool for this program).
-/
import Derived.Shelf.SlSortCmp.SmallK
import Derived.Ground.SlsfProg
import Derived.Test.YbulkeidmProg
namespace Go.Proofs.Ybulkeidm
open Go.Shelf
def sortPr_ren : Go.Shelf.Ren := ⟨fun | 6 => 11 | 15 => 17 | 14 => 16 | 28 => 29 | 29 => 30 | 20 => 21 | 21 => 22 | 22 => 23 | 23 => 24 | 24 => 25 | 25 => 26 | 26 => 27 | 27 => 28 | 46 => 32 | 47 => 33 | 48 => 34 | 49 => 35 | 50 => 36 | 57 => 38 | n => n, fun | 22 => 55 | 24 => 62 | 25 => 94 | 3 => 3 | 39 => 99 | 0 => 0 | 53 => 112 | 55 => 42 | 4 => 4 | 46 => 105 | 45 => 104 | 50 => 109 | 5 => 5 | 9 => 9 | 66 => 114 | 70 => 118 | 76 => 120 | 77 => 121 | n => n, fun | n => n⟩
theorem sortPr : Go.Proofs.SlLaysF0.n6 Yba.prog sortPr_ren := {
  mixed := by kernel_rfl
  f6 := ⟨Yba.f11.name, by decide, Yba.func11.trans (congrArg some (by kernel_rfl))⟩
  f14 := ⟨Yba.f16.name, by decide, Yba.func16.trans (congrArg some (by kernel_rfl))⟩
  f15 := Yba.func17.trans (congrArg some (by kernel_rfl))
  f20 := ⟨Yba.f21.name, by decide, Yba.func21.trans (congrArg some (by kernel_rfl))⟩
  f21 := ⟨Yba.f22.name, by decide, Yba.func22.trans (congrArg some (by kernel_rfl))⟩
  f22 := ⟨Yba.f23.name, by decide, Yba.func23.trans (congrArg some (by kernel_rfl))⟩
  f23 := ⟨Yba.f24.name, by decide, Yba.func24.trans (congrArg some (by kernel_rfl))⟩
  f24 := ⟨Yba.f25.name, by decide, Yba.func25.trans (congrArg some (by kernel_rfl))⟩
  f25 := ⟨Yba.f26.name, by decide, Yba.func26.trans (congrArg some (by kernel_rfl))⟩
  f26 := ⟨Yba.f27.name, by decide, Yba.func27.trans (congrArg some (by kernel_rfl))⟩
  f27 := ⟨Yba.f28.name, by decide, Yba.func28.trans (congrArg some (by kernel_rfl))⟩
  f28 := Yba.func29.trans (congrArg some (by kernel_rfl))
  f29 := Yba.func30.trans (congrArg some (by kernel_rfl))
  f46 := ⟨Yba.f32.name, by decide, Yba.func32.trans (congrArg some (by kernel_rfl))⟩
  f47 := Yba.func33.trans (congrArg some (by kernel_rfl))
  f48 := Yba.func34.trans (congrArg some (by kernel_rfl))
  f49 := ⟨Yba.f35.name, by decide, Yba.func35.trans (congrArg some (by kernel_rfl))⟩
  f50 := ⟨Yba.f36.name, by decide, Yba.func36.trans (congrArg some (by kernel_rfl))⟩
  f57 := ⟨Yba.f38.name, by decide, Yba.func38.trans (congrArg some (by kernel_rfl))⟩
  t0 := Yba.underlying0
  a0 := Yba.isAgg0
  z0 := Yba.sizeOf0
  v0 := Yba.zeroValue0
  t3 := Yba.underlying3
  a3 := Yba.isAgg3
  z3 := Yba.sizeOf3
  v3 := Yba.zeroValue3
  t4 := Yba.underlying4
  a4 := Yba.isAgg4
  z4 := Yba.sizeOf4
  v4 := Yba.zeroValue4
  t5 := Yba.underlying5
  a5 := Yba.isAgg5
  z5 := Yba.sizeOf5
  v5 := Yba.zeroValue5
  t9 := Yba.underlying9
  a9 := Yba.isAgg9
  z9 := Yba.sizeOf9
  v9 := Yba.zeroValue9
  t22 := Yba.underlying55
  a22 := Yba.isAgg55
  z22 := Yba.sizeOf55
  v22 := Yba.zeroValue55
  t25 := Yba.underlying94
  a25 := Yba.isAgg94
  z25 := Yba.sizeOf94
  v25 := Yba.zeroValue94
  t39 := Yba.underlying99
  a39 := Yba.isAgg99
  z39 := Yba.sizeOf99
  v39 := Yba.zeroValue99
  t45 := Yba.underlying104
  a45 := Yba.isAgg104
  z45 := Yba.sizeOf104
  v45 := Yba.zeroValue104
  t46 := Yba.underlying105
  a46 := Yba.isAgg105
  z46 := Yba.sizeOf105
  v46 := Yba.zeroValue105
  t50 := Yba.underlying109
  a50 := Yba.isAgg109
  z50 := Yba.sizeOf109
  v50 := Yba.zeroValue109
  t53 := Yba.underlying112
  a53 := Yba.isAgg112
  z53 := Yba.sizeOf112
  v53 := Yba.zeroValue112
  t55 := Yba.underlying42
  a55 := Yba.isAgg42
  z55 := Yba.sizeOf42
  v55 := Yba.zeroValue42
  t66 := Yba.underlying114
  a66 := Yba.isAgg114
  z66 := Yba.sizeOf114
  v66 := Yba.zeroValue114
  t70 := Yba.underlying118
  a70 := Yba.isAgg118
  z70 := Yba.sizeOf118
  v70 := Yba.zeroValue118
  t76 := Yba.underlying120
  a76 := Yba.isAgg120
  z76 := Yba.sizeOf120
  v76 := Yba.zeroValue120
  t77 := Yba.underlying121
  a77 := Yba.isAgg121
  z77 := Yba.sizeOf121
  v77 := Yba.zeroValue121 }
end Go.Proofs.Ybulkeidm
