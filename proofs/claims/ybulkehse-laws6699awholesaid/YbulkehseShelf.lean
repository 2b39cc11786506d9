/-
  Two contracts of the guide's shelf at this dump, in plain words (by the kit's lay-plain tool).
-/
import Derived.Shelf.SlicesE.Equal
import Derived.Shelf.SlicesE.Clone
import Derived.Test.YbulkehseProg
namespace Go.Proofs
open Go.Shelf
def Yba.cloneU_ren : Go.Shelf.Ren := ⟨fun | 41 => 4 | n => n, fun | 22 => 23 | 23 => 27 | 4 => 4 | n => n, fun | n => n⟩
theorem Yba.cloneU : Go.Proofs.SlLaysE0.n41 Yba.prog Yba.cloneU_ren := {
  mixed := by kernel_rfl
  f41 := ⟨Yba.f4.name, by decide, Yba.func4.trans (congrArg some (by kernel_rfl))⟩
  t4 := Yba.underlying4
  a4 := Yba.isAgg4
  z4 := Yba.sizeOf4
  v4 := Yba.zeroValue4
  t22 := Yba.underlying23
  a22 := Yba.isAgg23
  z22 := Yba.sizeOf23
  v22 := Yba.zeroValue23 }
def Yba.equalU_ren : Go.Shelf.Ren := ⟨fun | 33 => 9 | n => n, fun | 22 => 23 | 23 => 27 | 4 => 4 | 3 => 3 | 0 => 0 | n => n, fun | n => n⟩
theorem Yba.equalU : Go.Proofs.SlLaysE.n33 Yba.prog Yba.equalU_ren := {
  mixed := by kernel_rfl
  f33 := ⟨Yba.f9.name, by decide, Yba.func9.trans (congrArg some (by kernel_rfl))⟩
  t0 := Yba.underlying0
  a0 := Yba.isAgg0
  z0 := Yba.sizeOf0
  v0 := Yba.zeroValue0
  t3 := Yba.underlying3
  a3 := Yba.isAgg3
  z3 := Yba.sizeOf3
  v3 := Yba.zeroValue3
  t4 := Yba.underlying4
  a4 := Yba.isAgg4
  z4 := Yba.sizeOf4
  v4 := Yba.zeroValue4
  t22 := Yba.underlying23
  a22 := Yba.isAgg23
  z22 := Yba.sizeOf23
  v22 := Yba.zeroValue23
  a23 := Yba.isAgg27
  z23 := Yba.sizeOf27 }
end Go.Proofs
