/-
  slices.Clone, slices.Insert at []string: the layings of the shelf's contracts at this dump. Written by the kit's lay-plain.mjs for this dump; here under this seat's own names.
-/
import Derived.Shelf.Slices.Clone
import Derived.Shelf.Spec.SlicesInsertGrow
import Derived.Test.Qxb6605445aProg
namespace Go.Proofs.Qxb6605445a
open Go.Shelf
def laysNm216_ren : Go.Shelf.Ren := ⟨fun | 16 => 35 | n => n, fun | 24 => 22 | 9 => 9 | 4 => 4 | n => n, fun | n => n⟩
theorem laysNm216 : Go.Proofs.Lays2.n16 Try.prog laysNm216_ren := {
  mixed := by kernel_rfl
  f16 := Try.func35.trans (congrArg some (by kernel_rfl))
  t4 := Try.underlying4
  a4 := Try.isAgg4
  z4 := Try.sizeOf4
  v4 := Try.zeroValue4
  t9 := Try.underlying9
  a9 := Try.isAgg9
  z9 := Try.sizeOf9
  v9 := Try.zeroValue9
  t24 := Try.underlying22
  a24 := Try.isAgg22
  z24 := Try.sizeOf22
  v24 := Try.zeroValue22
  i9 := by kernel_rfl }
def laysNm222_ren : Go.Shelf.Ren := ⟨fun | 22 => 32 | 29 => 44 | 30 => 45 | 36 => 61 | 17 => 70 | n => n, fun | 24 => 22 | 9 => 9 | 3 => 3 | 4 => 4 | 0 => 0 | n => n, fun | n => n⟩
theorem laysNm222 : Go.Proofs.Lays2.n22 Try.prog laysNm222_ren := {
  mixed := by kernel_rfl
  f17 := Try.func70.trans (congrArg some (by kernel_rfl))
  f22 := Try.func32.trans (congrArg some (by kernel_rfl))
  f29 := Try.func44.trans (congrArg some (by kernel_rfl))
  f30 := Try.func45.trans (congrArg some (by kernel_rfl))
  f36 := Try.func61.trans (congrArg some (by kernel_rfl))
  t0 := Try.underlying0
  a0 := Try.isAgg0
  z0 := Try.sizeOf0
  v0 := Try.zeroValue0
  t3 := Try.underlying3
  a3 := Try.isAgg3
  z3 := Try.sizeOf3
  v3 := Try.zeroValue3
  t4 := Try.underlying4
  a4 := Try.isAgg4
  z4 := Try.sizeOf4
  v4 := Try.zeroValue4
  t9 := Try.underlying9
  a9 := Try.isAgg9
  z9 := Try.sizeOf9
  v9 := Try.zeroValue9
  t24 := Try.underlying22
  a24 := Try.isAgg22
  z24 := Try.sizeOf22
  v24 := Try.zeroValue22
  i9 := by kernel_rfl }
end Go.Proofs.Qxb6605445a
