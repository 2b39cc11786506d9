/-
  Contracts of the guide's shelf at this dump, in plain words (by the kit's lay-plain tool).
-/
import Derived.Shelf.SlSortCmp.Whole1
import Derived.Shelf.SlicesE.Clone
import Derived.Shelf.SlicesE.Equal
import Derived.Test.YboneofktProg
set_option maxRecDepth 1000000
namespace Go.Proofs
open Go.Shelf
def Ybgt.cloneA_ren : Go.Shelf.Ren := ⟨fun | 41 => 4 | n => n, fun | 22 => 24 | 23 => 21 | 4 => 4 | n => n, fun | n => n⟩
theorem Ybgt.cloneA : Go.Proofs.SlLaysE0.n41 Ybgt.prog Ybgt.cloneA_ren := {
  mixed := by kernel_rfl
  f41 := ⟨Ybgt.f4.name, by decide, Ybgt.func4.trans (congrArg some (by kernel_rfl))⟩
  t4 := Ybgt.underlying4
  a4 := Ybgt.isAgg4
  z4 := Ybgt.sizeOf4
  v4 := Ybgt.zeroValue4
  t22 := Ybgt.underlying24
  a22 := Ybgt.isAgg24
  z22 := Ybgt.sizeOf24
  v22 := Ybgt.zeroValue24 }
def Ybgt.cloneI_ren : Go.Shelf.Ren := ⟨fun | 41 => 5 | n => n, fun | 22 => 31 | 23 => 3 | 4 => 4 | n => n, fun | n => n⟩
theorem Ybgt.cloneI : Go.Proofs.SlLaysE0.n41 Ybgt.prog Ybgt.cloneI_ren := {
  mixed := by kernel_rfl
  f41 := ⟨Ybgt.f5.name, by decide, Ybgt.func5.trans (congrArg some (by kernel_rfl))⟩
  t4 := Ybgt.underlying4
  a4 := Ybgt.isAgg4
  z4 := Ybgt.sizeOf4
  v4 := Ybgt.zeroValue4
  t22 := Ybgt.underlying31
  a22 := Ybgt.isAgg31
  z22 := Ybgt.sizeOf31
  v22 := Ybgt.zeroValue31 }
def Ybgt.equalA_ren : Go.Shelf.Ren := ⟨fun | 33 => 7 | n => n, fun | 22 => 24 | 23 => 21 | 4 => 4 | 3 => 3 | 0 => 0 | n => n, fun | n => n⟩
theorem Ybgt.equalA : Go.Proofs.SlLaysE.n33 Ybgt.prog Ybgt.equalA_ren := {
  mixed := by kernel_rfl
  f33 := ⟨Ybgt.f7.name, by decide, Ybgt.func7.trans (congrArg some (by kernel_rfl))⟩
  t0 := Ybgt.underlying0
  a0 := Ybgt.isAgg0
  z0 := Ybgt.sizeOf0
  v0 := Ybgt.zeroValue0
  t3 := Ybgt.underlying3
  a3 := Ybgt.isAgg3
  z3 := Ybgt.sizeOf3
  v3 := Ybgt.zeroValue3
  t4 := Ybgt.underlying4
  a4 := Ybgt.isAgg4
  z4 := Ybgt.sizeOf4
  v4 := Ybgt.zeroValue4
  t22 := Ybgt.underlying24
  a22 := Ybgt.isAgg24
  z22 := Ybgt.sizeOf24
  v22 := Ybgt.zeroValue24
  a23 := Ybgt.isAgg21
  z23 := Ybgt.sizeOf21 }
def Ybgt.sortF_ren : Go.Shelf.Ren := ⟨fun | 6 => 12 | 15 => 16 | 14 => 17 | 28 => 28 | 29 => 29 | 20 => 30 | 21 => 31 | 22 => 32 | 23 => 33 | 24 => 34 | 25 => 35 | 26 => 36 | 27 => 37 | 46 => 43 | 47 => 39 | 48 => 40 | 49 => 44 | 50 => 45 | 57 => 47 | n => n, fun | 22 => 24 | 24 => 21 | 25 => 63 | 3 => 3 | 39 => 66 | 0 => 0 | 53 => 79 | 55 => 81 | 4 => 4 | 46 => 71 | 45 => 70 | 50 => 76 | 5 => 5 | 9 => 9 | 66 => 87 | 70 => 91 | 76 => 95 | 77 => 96 | n => n, fun | n => n⟩
theorem Ybgt.sortF : Go.Proofs.SlLaysF.n6 Ybgt.prog Ybgt.sortF_ren := {
  mixed := by kernel_rfl
  f6 := ⟨Ybgt.f12.name, by decide, Ybgt.func12.trans (congrArg some (by kernel_rfl))⟩
  f14 := ⟨Ybgt.f17.name, by decide, Ybgt.func17.trans (congrArg some (by kernel_rfl))⟩
  f15 := Ybgt.func16.trans (congrArg some (by kernel_rfl))
  f20 := ⟨Ybgt.f30.name, by decide, Ybgt.func30.trans (congrArg some (by kernel_rfl))⟩
  f21 := ⟨Ybgt.f31.name, by decide, Ybgt.func31.trans (congrArg some (by kernel_rfl))⟩
  f22 := ⟨Ybgt.f32.name, by decide, Ybgt.func32.trans (congrArg some (by kernel_rfl))⟩
  f23 := ⟨Ybgt.f33.name, by decide, Ybgt.func33.trans (congrArg some (by kernel_rfl))⟩
  f24 := ⟨Ybgt.f34.name, by decide, Ybgt.func34.trans (congrArg some (by kernel_rfl))⟩
  f25 := ⟨Ybgt.f35.name, by decide, Ybgt.func35.trans (congrArg some (by kernel_rfl))⟩
  f26 := ⟨Ybgt.f36.name, by decide, Ybgt.func36.trans (congrArg some (by kernel_rfl))⟩
  f27 := ⟨Ybgt.f37.name, by decide, Ybgt.func37.trans (congrArg some (by kernel_rfl))⟩
  f28 := Ybgt.func28.trans (congrArg some (by kernel_rfl))
  f29 := Ybgt.func29.trans (congrArg some (by kernel_rfl))
  f46 := ⟨Ybgt.f43.name, by decide, Ybgt.func43.trans (congrArg some (by kernel_rfl))⟩
  f47 := Ybgt.func39.trans (congrArg some (by kernel_rfl))
  f48 := Ybgt.func40.trans (congrArg some (by kernel_rfl))
  f49 := ⟨Ybgt.f44.name, by decide, Ybgt.func44.trans (congrArg some (by kernel_rfl))⟩
  f50 := ⟨Ybgt.f45.name, by decide, Ybgt.func45.trans (congrArg some (by kernel_rfl))⟩
  f57 := ⟨Ybgt.f47.name, by decide, Ybgt.func47.trans (congrArg some (by kernel_rfl))⟩
  t0 := Ybgt.underlying0
  a0 := Ybgt.isAgg0
  z0 := Ybgt.sizeOf0
  v0 := Ybgt.zeroValue0
  t3 := Ybgt.underlying3
  a3 := Ybgt.isAgg3
  z3 := Ybgt.sizeOf3
  v3 := Ybgt.zeroValue3
  t4 := Ybgt.underlying4
  a4 := Ybgt.isAgg4
  z4 := Ybgt.sizeOf4
  v4 := Ybgt.zeroValue4
  t5 := Ybgt.underlying5
  a5 := Ybgt.isAgg5
  z5 := Ybgt.sizeOf5
  v5 := Ybgt.zeroValue5
  t9 := Ybgt.underlying9
  a9 := Ybgt.isAgg9
  z9 := Ybgt.sizeOf9
  v9 := Ybgt.zeroValue9
  t22 := Ybgt.underlying24
  a22 := Ybgt.isAgg24
  z22 := Ybgt.sizeOf24
  v22 := Ybgt.zeroValue24
  a24 := Ybgt.isAgg21
  z24 := Ybgt.sizeOf21
  t25 := Ybgt.underlying63
  a25 := Ybgt.isAgg63
  z25 := Ybgt.sizeOf63
  v25 := Ybgt.zeroValue63
  t39 := Ybgt.underlying66
  a39 := Ybgt.isAgg66
  z39 := Ybgt.sizeOf66
  v39 := Ybgt.zeroValue66
  t45 := Ybgt.underlying70
  a45 := Ybgt.isAgg70
  z45 := Ybgt.sizeOf70
  v45 := Ybgt.zeroValue70
  t46 := Ybgt.underlying71
  a46 := Ybgt.isAgg71
  z46 := Ybgt.sizeOf71
  v46 := Ybgt.zeroValue71
  t50 := Ybgt.underlying76
  a50 := Ybgt.isAgg76
  z50 := Ybgt.sizeOf76
  v50 := Ybgt.zeroValue76
  t53 := Ybgt.underlying79
  a53 := Ybgt.isAgg79
  z53 := Ybgt.sizeOf79
  v53 := Ybgt.zeroValue79
  t55 := Ybgt.underlying81
  a55 := Ybgt.isAgg81
  z55 := Ybgt.sizeOf81
  v55 := Ybgt.zeroValue81
  t66 := Ybgt.underlying87
  a66 := Ybgt.isAgg87
  z66 := Ybgt.sizeOf87
  v66 := Ybgt.zeroValue87
  t70 := Ybgt.underlying91
  a70 := Ybgt.isAgg91
  z70 := Ybgt.sizeOf91
  v70 := Ybgt.zeroValue91
  t76 := Ybgt.underlying95
  a76 := Ybgt.isAgg95
  z76 := Ybgt.sizeOf95
  v76 := Ybgt.zeroValue95
  t77 := Ybgt.underlying96
  a77 := Ybgt.isAgg96
  z77 := Ybgt.sizeOf96
  v77 := Ybgt.zeroValue96 }
end Go.Proofs
