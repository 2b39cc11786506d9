/-
  The sort's contract of the guide's shelf at this dump, in plain words (by the kit's lay-plain tool).
-/
import Derived.Shelf.SlSortCmp.NoneTotal
import Derived.Test.YbulkehrqProg
set_option maxRecDepth 1000000
namespace Go.Proofs
open Go.Shelf
def Yba.sortStamp_ren : Go.Shelf.Ren := ⟨fun | 6 => 8 | 15 => 12 | 14 => 11 | 28 => 22 | 29 => 23 | 20 => 14 | 21 => 15 | 22 => 16 | 23 => 17 | 24 => 18 | 25 => 19 | 26 => 20 | 27 => 21 | 46 => 24 | 47 => 25 | 48 => 26 | 49 => 27 | 50 => 28 | 57 => 29 | n => n, fun | 22 => 37 | 24 => 39 | 25 => 42 | 3 => 3 | 39 => 45 | 0 => 0 | 53 => 56 | 55 => 58 | 4 => 4 | 46 => 49 | 45 => 48 | 50 => 53 | 5 => 5 | 9 => 9 | 66 => 59 | 70 => 63 | 76 => 65 | 77 => 66 | n => n, fun | n => n⟩
theorem Yba.sortStamp : Go.Proofs.SlLaysF0.n6 Yba.prog Yba.sortStamp_ren := {
  mixed := by kernel_rfl
  f6 := ⟨Yba.f8.name, by decide, Yba.func8.trans (congrArg some (by kernel_rfl))⟩
  f14 := ⟨Yba.f11.name, by decide, Yba.func11.trans (congrArg some (by kernel_rfl))⟩
  f15 := Yba.func12.trans (congrArg some (by kernel_rfl))
  f20 := ⟨Yba.f14.name, by decide, Yba.func14.trans (congrArg some (by kernel_rfl))⟩
  f21 := ⟨Yba.f15.name, by decide, Yba.func15.trans (congrArg some (by kernel_rfl))⟩
  f22 := ⟨Yba.f16.name, by decide, Yba.func16.trans (congrArg some (by kernel_rfl))⟩
  f23 := ⟨Yba.f17.name, by decide, Yba.func17.trans (congrArg some (by kernel_rfl))⟩
  f24 := ⟨Yba.f18.name, by decide, Yba.func18.trans (congrArg some (by kernel_rfl))⟩
  f25 := ⟨Yba.f19.name, by decide, Yba.func19.trans (congrArg some (by kernel_rfl))⟩
  f26 := ⟨Yba.f20.name, by decide, Yba.func20.trans (congrArg some (by kernel_rfl))⟩
  f27 := ⟨Yba.f21.name, by decide, Yba.func21.trans (congrArg some (by kernel_rfl))⟩
  f28 := Yba.func22.trans (congrArg some (by kernel_rfl))
  f29 := Yba.func23.trans (congrArg some (by kernel_rfl))
  f46 := ⟨Yba.f24.name, by decide, Yba.func24.trans (congrArg some (by kernel_rfl))⟩
  f47 := Yba.func25.trans (congrArg some (by kernel_rfl))
  f48 := Yba.func26.trans (congrArg some (by kernel_rfl))
  f49 := ⟨Yba.f27.name, by decide, Yba.func27.trans (congrArg some (by kernel_rfl))⟩
  f50 := ⟨Yba.f28.name, by decide, Yba.func28.trans (congrArg some (by kernel_rfl))⟩
  f57 := ⟨Yba.f29.name, by decide, Yba.func29.trans (congrArg some (by kernel_rfl))⟩
  t0 := Yba.underlying0
  a0 := Yba.isAgg0
  z0 := Yba.sizeOf0
  v0 := Yba.zeroValue0
  t3 := Yba.underlying3
  a3 := Yba.isAgg3
  z3 := Yba.sizeOf3
  v3 := Yba.zeroValue3
  t4 := Yba.underlying4
  a4 := Yba.isAgg4
  z4 := Yba.sizeOf4
  v4 := Yba.zeroValue4
  t5 := Yba.underlying5
  a5 := Yba.isAgg5
  z5 := Yba.sizeOf5
  v5 := Yba.zeroValue5
  t9 := Yba.underlying9
  a9 := Yba.isAgg9
  z9 := Yba.sizeOf9
  v9 := Yba.zeroValue9
  t22 := Yba.underlying37
  a22 := Yba.isAgg37
  z22 := Yba.sizeOf37
  v22 := Yba.zeroValue37
  t25 := Yba.underlying42
  a25 := Yba.isAgg42
  z25 := Yba.sizeOf42
  v25 := Yba.zeroValue42
  t39 := Yba.underlying45
  a39 := Yba.isAgg45
  z39 := Yba.sizeOf45
  v39 := Yba.zeroValue45
  t45 := Yba.underlying48
  a45 := Yba.isAgg48
  z45 := Yba.sizeOf48
  v45 := Yba.zeroValue48
  t46 := Yba.underlying49
  a46 := Yba.isAgg49
  z46 := Yba.sizeOf49
  v46 := Yba.zeroValue49
  t50 := Yba.underlying53
  a50 := Yba.isAgg53
  z50 := Yba.sizeOf53
  v50 := Yba.zeroValue53
  t53 := Yba.underlying56
  a53 := Yba.isAgg56
  z53 := Yba.sizeOf56
  v53 := Yba.zeroValue56
  t55 := Yba.underlying58
  a55 := Yba.isAgg58
  z55 := Yba.sizeOf58
  v55 := Yba.zeroValue58
  t66 := Yba.underlying59
  a66 := Yba.isAgg59
  z66 := Yba.sizeOf59
  v66 := Yba.zeroValue59
  t70 := Yba.underlying63
  a70 := Yba.isAgg63
  z70 := Yba.sizeOf63
  v70 := Yba.zeroValue63
  t76 := Yba.underlying65
  a76 := Yba.isAgg65
  z76 := Yba.sizeOf65
  v76 := Yba.zeroValue65
  t77 := Yba.underlying66
  a77 := Yba.isAgg66
  z77 := Yba.sizeOf66
  v77 := Yba.zeroValue66 }
end Go.Proofs
