/- The contracts of slices.BinarySearch and slices.Insert at []int, at this dump's numbers. -/
import Derived.Shelf.Slices.SearchI
import Derived.Shelf.Slices.Empties
import Derived.Shelf.Spec.SlicesInsert
import Derived.Shelf.Spec.SlicesInsertGrow
import Derived.Test.Qxb6628283aProg
namespace Go.Proofs
open Go.Shelf
def Try.lays25_ren : Go.Shelf.Ren := ⟨fun | 25 => 19 | 31 => 22 | 32 => 23 | 37 => 26 | n => n, fun | 22 => 38 | 3 => 3 | 4 => 4 | 40 => 60 | 0 => 0 | n => n, fun | n => n⟩
theorem Try.lays25 : Go.Proofs.Lays2.n25 Try.prog Try.lays25_ren := {
  mixed := by kernel_rfl
  f25 := Try.func19.trans (congrArg some (by kernel_rfl))
  f31 := Try.func22.trans (congrArg some (by kernel_rfl))
  f32 := Try.func23.trans (congrArg some (by kernel_rfl))
  f37 := Try.func26.trans (congrArg some (by kernel_rfl))
  t0 := Try.underlying0
  a0 := Try.isAgg0
  z0 := Try.sizeOf0
  v0 := Try.zeroValue0
  t3 := Try.underlying3
  a3 := Try.isAgg3
  z3 := Try.sizeOf3
  v3 := Try.zeroValue3
  t4 := Try.underlying4
  a4 := Try.isAgg4
  z4 := Try.sizeOf4
  v4 := Try.zeroValue4
  t22 := Try.underlying38
  a22 := Try.isAgg38
  z22 := Try.sizeOf38
  v22 := Try.zeroValue38
  t40 := Try.underlying60
  a40 := Try.isAgg60
  z40 := Try.sizeOf60
  v40 := Try.zeroValue60 }
def Try.lays21_ren : Go.Shelf.Ren := ⟨fun | 21 => 21 | 27 => 24 | 28 => 25 | 35 => 27 | 39 => 28 | n => n, fun | 22 => 38 | 3 => 3 | 4 => 4 | 0 => 0 | n => n, fun | n => n⟩
theorem Try.lays21 : Go.Proofs.Lays2.n21 Try.prog Try.lays21_ren := {
  mixed := by kernel_rfl
  f21 := Try.func21.trans (congrArg some (by kernel_rfl))
  f27 := Try.func24.trans (congrArg some (by kernel_rfl))
  f28 := Try.func25.trans (congrArg some (by kernel_rfl))
  f35 := Try.func27.trans (congrArg some (by kernel_rfl))
  f39 := Try.func28.trans (congrArg some (by kernel_rfl))
  t0 := Try.underlying0
  a0 := Try.isAgg0
  z0 := Try.sizeOf0
  v0 := Try.zeroValue0
  t3 := Try.underlying3
  a3 := Try.isAgg3
  z3 := Try.sizeOf3
  v3 := Try.zeroValue3
  t4 := Try.underlying4
  a4 := Try.isAgg4
  z4 := Try.sizeOf4
  v4 := Try.zeroValue4
  t22 := Try.underlying38
  a22 := Try.isAgg38
  z22 := Try.sizeOf38
  v22 := Try.zeroValue38
  i3 := by kernel_rfl }
end Go.Proofs
