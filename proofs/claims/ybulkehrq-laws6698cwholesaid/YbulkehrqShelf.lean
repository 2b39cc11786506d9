/-
  Two contracts of the guide's shelf at this dump, in plain words (by the kit's lay-plain tool).
-/
import Derived.Shelf.SlicesQ.Equal
import Derived.Shelf.SlicesE.Clone
import Derived.Test.YbulkehrqProg
namespace Go.Proofs
open Go.Shelf
def Yba.cloneOp_ren : Go.Shelf.Ren := ⟨fun | 41 => 4 | n => n, fun | 22 => 23 | 23 => 28 | 4 => 4 | n => n, fun | n => n⟩
theorem Yba.cloneOp : Go.Proofs.SlLaysE0.n41 Yba.prog Yba.cloneOp_ren := {
  mixed := by kernel_rfl
  f41 := ⟨Yba.f4.name, by decide, Yba.func4.trans (congrArg some (by kernel_rfl))⟩
  t4 := Yba.underlying4
  a4 := Yba.isAgg4
  z4 := Yba.sizeOf4
  v4 := Yba.zeroValue4
  t22 := Yba.underlying23
  a22 := Yba.isAgg23
  z22 := Yba.sizeOf23
  v22 := Yba.zeroValue23 }
def Yba.equalOp_ren : Go.Shelf.Ren := ⟨fun | 8 => 7 | n => n, fun | 22 => 23 | 24 => 28 | 4 => 4 | 3 => 3 | 0 => 0 | n => n, fun | n => n⟩
theorem Yba.equalOp : Go.Proofs.SlLaysQ.n8 Yba.prog Yba.equalOp_ren := {
  mixed := by kernel_rfl
  f8 := ⟨Yba.f7.name, by decide, Yba.func7.trans (congrArg some (by kernel_rfl))⟩
  t0 := Yba.underlying0
  a0 := Yba.isAgg0
  z0 := Yba.sizeOf0
  v0 := Yba.zeroValue0
  t3 := Yba.underlying3
  a3 := Yba.isAgg3
  z3 := Yba.sizeOf3
  v3 := Yba.zeroValue3
  t4 := Yba.underlying4
  a4 := Yba.isAgg4
  z4 := Yba.sizeOf4
  v4 := Yba.zeroValue4
  t22 := Yba.underlying23
  a22 := Yba.isAgg23
  z22 := Yba.sizeOf23
  v22 := Yba.zeroValue23 }
end Go.Proofs
