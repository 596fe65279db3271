/-
  Seat b6625905a: the shelf's contract of slices.Grow laid at this dump, in plain words (written by the kit's lay-plain.mjs).
-/
import Derived.Shelf.Spec.SlicesGrow
import Derived.Test.Qxb6625905aProg
namespace Go.Proofs
open Go.Shelf
def Try.growE_ren : Go.Shelf.Ren := ⟨fun | 4 => 14 | n => n, fun | 22 => 30 | 25 => 34 | 3 => 3 | 4 => 4 | 9 => 9 | 20 => 20 | 0 => 0 | n => n, fun | n => n⟩
theorem Try.growE : Go.Proofs.Lays8.n4 Try.prog Try.growE_ren := {
  mixed := by kernel_rfl
  f4 := ⟨Try.f14.name, by decide, Try.func14.trans (congrArg some (by kernel_rfl))⟩
  t0 := Try.underlying0
  a0 := Try.isAgg0
  z0 := Try.sizeOf0
  v0 := Try.zeroValue0
  t3 := Try.underlying3
  a3 := Try.isAgg3
  z3 := Try.sizeOf3
  v3 := Try.zeroValue3
  t4 := Try.underlying4
  a4 := Try.isAgg4
  z4 := Try.sizeOf4
  v4 := Try.zeroValue4
  t9 := Try.underlying9
  a9 := Try.isAgg9
  z9 := Try.sizeOf9
  v9 := Try.zeroValue9
  t20 := Try.underlying20
  a20 := Try.isAgg20
  z20 := Try.sizeOf20
  v20 := Try.zeroValue20
  t22 := Try.underlying30
  a22 := Try.isAgg30
  z22 := Try.sizeOf30
  v22 := Try.zeroValue30 }
end Go.Proofs
