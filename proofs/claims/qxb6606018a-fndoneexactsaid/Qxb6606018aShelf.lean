/- Three layings of the shelf at this program, as the kit's tool lay-plain.mjs writes them: bytes.Join, slices.DeleteFunc, slices.Grow. -/
import Derived.Shelf.Bytes.SlJoin
import Derived.Shelf.SlicesE.DeleteFunc
import Derived.Shelf.Spec.SlicesGrow
import Derived.Test.Qxb6606018aProg
namespace Go.Proofs.Qxb6606018a.done
open Go.Shelf
def laysJoin_ren : Go.Shelf.Ren := ⟨fun | 14 => 32 | 15 => 35 | n => n, fun | 26 => 25 | 22 => 31 | 3 => 3 | 4 => 4 | 0 => 0 | 9 => 9 | 20 => 20 | 5 => 5 | n => n, fun | n => n⟩
theorem laysJoin : Go.Proofs.SlLaysJ.n14 Try.prog laysJoin_ren := {
  mixed := by kernel_rfl
  f14 := Try.func32.trans (congrArg some (by kernel_rfl))
  f15 := Try.func35.trans (congrArg some (by kernel_rfl))
  t0 := Try.underlying0
  a0 := Try.isAgg0
  z0 := Try.sizeOf0
  v0 := Try.zeroValue0
  t3 := Try.underlying3
  a3 := Try.isAgg3
  z3 := Try.sizeOf3
  v3 := Try.zeroValue3
  t4 := Try.underlying4
  a4 := Try.isAgg4
  z4 := Try.sizeOf4
  v4 := Try.zeroValue4
  t9 := Try.underlying9
  a9 := Try.isAgg9
  z9 := Try.sizeOf9
  v9 := Try.zeroValue9
  t20 := Try.underlying20
  a20 := Try.isAgg20
  z20 := Try.sizeOf20
  v20 := Try.zeroValue20
  t22 := Try.underlying31
  a22 := Try.isAgg31
  z22 := Try.sizeOf31
  v22 := Try.zeroValue31
  t26 := Try.underlying25
  a26 := Try.isAgg25
  z26 := Try.sizeOf25
  v26 := Try.zeroValue25
  t5 := Try.underlying5
  z5 := Try.sizeOf5
  i5 := by kernel_rfl }
def laysDelete_ren : Go.Shelf.Ren := ⟨fun | 10 => 28 | 6 => 33 | n => n, fun | 22 => 25 | 23 => 31 | 25 => 58 | 3 => 3 | 4 => 4 | 0 => 0 | n => n, fun | n => n⟩
theorem laysDelete : Go.Proofs.SlLaysH.n10 Try.prog laysDelete_ren := {
  mixed := by kernel_rfl
  f6 := ⟨Try.f33.name, by decide, Try.func33.trans (congrArg some (by kernel_rfl))⟩
  f10 := ⟨Try.f28.name, by decide, Try.func28.trans (congrArg some (by kernel_rfl))⟩
  t0 := Try.underlying0
  a0 := Try.isAgg0
  z0 := Try.sizeOf0
  v0 := Try.zeroValue0
  t3 := Try.underlying3
  a3 := Try.isAgg3
  z3 := Try.sizeOf3
  v3 := Try.zeroValue3
  t4 := Try.underlying4
  a4 := Try.isAgg4
  z4 := Try.sizeOf4
  v4 := Try.zeroValue4
  t22 := Try.underlying25
  a22 := Try.isAgg25
  z22 := Try.sizeOf25
  v22 := Try.zeroValue25
  a23 := Try.isAgg31
  z23 := Try.sizeOf31
  t25 := Try.underlying58
  a25 := Try.isAgg58
  z25 := Try.sizeOf58
  v25 := Try.zeroValue58 }
def laysGrow_ren : Go.Shelf.Ren := ⟨fun | 4 => 34 | n => n, fun | 22 => 31 | 25 => 5 | 3 => 3 | 4 => 4 | 9 => 9 | 20 => 20 | 0 => 0 | n => n, fun | n => n⟩
theorem laysGrow : Go.Proofs.Lays8.n4 Try.prog laysGrow_ren := {
  mixed := by kernel_rfl
  f4 := ⟨Try.f34.name, by decide, Try.func34.trans (congrArg some (by kernel_rfl))⟩
  t0 := Try.underlying0
  a0 := Try.isAgg0
  z0 := Try.sizeOf0
  v0 := Try.zeroValue0
  t3 := Try.underlying3
  a3 := Try.isAgg3
  z3 := Try.sizeOf3
  v3 := Try.zeroValue3
  t4 := Try.underlying4
  a4 := Try.isAgg4
  z4 := Try.sizeOf4
  v4 := Try.zeroValue4
  t9 := Try.underlying9
  a9 := Try.isAgg9
  z9 := Try.sizeOf9
  v9 := Try.zeroValue9
  t20 := Try.underlying20
  a20 := Try.isAgg20
  z20 := Try.sizeOf20
  v20 := Try.zeroValue20
  t22 := Try.underlying31
  a22 := Try.isAgg31
  z22 := Try.sizeOf31
  v22 := Try.zeroValue31 }
end Go.Proofs.Qxb6606018a.done
