/- slices.Grow of the shelf at this translation's two instances, laid by the kit's own tool. -/
import Derived.Shelf.Spec.SlicesGrow
import Derived.Test.YtndeolcamgnmdaaGreatDoorProg
set_option linter.unusedVariables false
set_option linter.unusedSimpArgs false
set_option linter.unnecessarySimpa false
namespace Go.Proofs
open Go.Shelf
def Tryz.growW_ren : Go.Shelf.Ren := ⟨fun | 4 => 103 | n => n, fun | 22 => 57 | 25 => 83 | 3 => 3 | 4 => 4 | 9 => 9 | 20 => 20 | 0 => 0 | n => n, fun | n => n⟩
theorem Tryz.growW : Go.Proofs.Lays8.n4 Tryz.prog Tryz.growW_ren := {
  mixed := by kernel_rfl
  f4 := ⟨Tryz.f103.name, by decide, Tryz.func103.trans (congrArg some (by kernel_rfl))⟩
  t0 := Tryz.underlying0
  a0 := Tryz.isAgg0
  z0 := Tryz.sizeOf0
  v0 := Tryz.zeroValue0
  t3 := Tryz.underlying3
  a3 := Tryz.isAgg3
  z3 := Tryz.sizeOf3
  v3 := Tryz.zeroValue3
  t4 := Tryz.underlying4
  a4 := Tryz.isAgg4
  z4 := Tryz.sizeOf4
  v4 := Tryz.zeroValue4
  t9 := Tryz.underlying9
  a9 := Tryz.isAgg9
  z9 := Tryz.sizeOf9
  v9 := Tryz.zeroValue9
  t20 := Tryz.underlying20
  a20 := Tryz.isAgg20
  z20 := Tryz.sizeOf20
  v20 := Tryz.zeroValue20
  t22 := Tryz.underlying57
  a22 := Tryz.isAgg57
  z22 := Tryz.sizeOf57
  v22 := Tryz.zeroValue57 }
def Tryz.growN_ren : Go.Shelf.Ren := ⟨fun | 4 => 87 | n => n, fun | 22 => 58 | 25 => 83 | 3 => 3 | 4 => 4 | 9 => 9 | 20 => 20 | 0 => 0 | n => n, fun | n => n⟩
theorem Tryz.growN : Go.Proofs.Lays8.n4 Tryz.prog Tryz.growN_ren := {
  mixed := by kernel_rfl
  f4 := ⟨Tryz.f87.name, by decide, Tryz.func87.trans (congrArg some (by kernel_rfl))⟩
  t0 := Tryz.underlying0
  a0 := Tryz.isAgg0
  z0 := Tryz.sizeOf0
  v0 := Tryz.zeroValue0
  t3 := Tryz.underlying3
  a3 := Tryz.isAgg3
  z3 := Tryz.sizeOf3
  v3 := Tryz.zeroValue3
  t4 := Tryz.underlying4
  a4 := Tryz.isAgg4
  z4 := Tryz.sizeOf4
  v4 := Tryz.zeroValue4
  t9 := Tryz.underlying9
  a9 := Tryz.isAgg9
  z9 := Tryz.sizeOf9
  v9 := Tryz.zeroValue9
  t20 := Tryz.underlying20
  a20 := Tryz.isAgg20
  z20 := Tryz.sizeOf20
  v20 := Tryz.zeroValue20
  t22 := Tryz.underlying58
  a22 := Tryz.isAgg58
  z22 := Tryz.sizeOf58
  v22 := Tryz.zeroValue58 }
end Go.Proofs
