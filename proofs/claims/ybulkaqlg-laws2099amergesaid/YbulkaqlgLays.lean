/-
  The library's contracts laid at this program (written by the kit's tool, in plain words): the table of numbers and one fact a row.
-/
import Derived.Shelf.SlGeneric
import Derived.Shelf.Slices.Equal
import Derived.Shelf.Spec.SearchS
import Derived.Shelf.Spec.SlicesGrow
import Derived.Test.YbulkaqlgProg
namespace Go.Proofs
open Go.Shelf
def Yba.lays193_ren : Go.Shelf.Ren := ⟨fun | 193 => 8 | n => n, fun | 31 => 22 | 9 => 9 | 4 => 4 | 3 => 3 | 0 => 0 | n => n, fun | n => n⟩
theorem Yba.lays193 : Go.Proofs.Lays.n193 Yba.prog Yba.lays193_ren := {
  mixed := by kernel_rfl
  f193 := Yba.func8.trans (congrArg some (by kernel_rfl))
  t0 := Yba.underlying0
  a0 := Yba.isAgg0
  z0 := Yba.sizeOf0
  v0 := Yba.zeroValue0
  t3 := Yba.underlying3
  a3 := Yba.isAgg3
  z3 := Yba.sizeOf3
  v3 := Yba.zeroValue3
  t4 := Yba.underlying4
  a4 := Yba.isAgg4
  z4 := Yba.sizeOf4
  v4 := Yba.zeroValue4
  t9 := Yba.underlying9
  a9 := Yba.isAgg9
  z9 := Yba.sizeOf9
  v9 := Yba.zeroValue9
  t31 := Yba.underlying22
  a31 := Yba.isAgg22
  z31 := Yba.sizeOf22
  v31 := Yba.zeroValue22 }
def Yba.laysNm226_ren : Go.Shelf.Ren := ⟨fun | 26 => 11 | 33 => 20 | 34 => 25 | 38 => 31 | n => n, fun | 24 => 22 | 9 => 9 | 3 => 3 | 4 => 4 | 40 => 33 | 0 => 0 | n => n, fun | n => n⟩
theorem Yba.laysNm226 : Go.Proofs.Lays2.n26 Yba.prog Yba.laysNm226_ren := {
  mixed := by kernel_rfl
  f26 := Yba.func11.trans (congrArg some (by kernel_rfl))
  f33 := Yba.func20.trans (congrArg some (by kernel_rfl))
  f34 := Yba.func25.trans (congrArg some (by kernel_rfl))
  f38 := Yba.func31.trans (congrArg some (by kernel_rfl))
  t0 := Yba.underlying0
  a0 := Yba.isAgg0
  z0 := Yba.sizeOf0
  v0 := Yba.zeroValue0
  t3 := Yba.underlying3
  a3 := Yba.isAgg3
  z3 := Yba.sizeOf3
  v3 := Yba.zeroValue3
  t4 := Yba.underlying4
  a4 := Yba.isAgg4
  z4 := Yba.sizeOf4
  v4 := Yba.zeroValue4
  t9 := Yba.underlying9
  a9 := Yba.isAgg9
  z9 := Yba.sizeOf9
  v9 := Yba.zeroValue9
  t24 := Yba.underlying22
  a24 := Yba.isAgg22
  z24 := Yba.sizeOf22
  v24 := Yba.zeroValue22
  t40 := Yba.underlying33
  a40 := Yba.isAgg33
  z40 := Yba.sizeOf33
  v40 := Yba.zeroValue33 }
def Yba.growS_ren : Go.Shelf.Ren := ⟨fun | 4 => 12 | n => n, fun | 22 => 22 | 25 => 9 | 3 => 3 | 4 => 4 | 9 => 9 | 20 => 20 | 0 => 0 | n => n, fun | n => n⟩
theorem Yba.growS : Go.Proofs.Lays8.n4 Yba.prog Yba.growS_ren := {
  mixed := by kernel_rfl
  f4 := ⟨Yba.f12.name, by decide, Yba.func12.trans (congrArg some (by kernel_rfl))⟩
  t0 := Yba.underlying0
  a0 := Yba.isAgg0
  z0 := Yba.sizeOf0
  v0 := Yba.zeroValue0
  t3 := Yba.underlying3
  a3 := Yba.isAgg3
  z3 := Yba.sizeOf3
  v3 := Yba.zeroValue3
  t4 := Yba.underlying4
  a4 := Yba.isAgg4
  z4 := Yba.sizeOf4
  v4 := Yba.zeroValue4
  t9 := Yba.underlying9
  a9 := Yba.isAgg9
  z9 := Yba.sizeOf9
  v9 := Yba.zeroValue9
  t20 := Yba.underlying20
  a20 := Yba.isAgg20
  z20 := Yba.sizeOf20
  v20 := Yba.zeroValue20
  t22 := Yba.underlying22
  a22 := Yba.isAgg22
  z22 := Yba.sizeOf22
  v22 := Yba.zeroValue22 }
end Go.Proofs
