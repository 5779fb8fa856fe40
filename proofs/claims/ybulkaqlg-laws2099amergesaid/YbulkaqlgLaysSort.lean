/-
  The library's contracts laid at this program (written by the kit's tool, in plain words): the table of numbers and one fact a row.
-/
import Derived.Shelf.Sort.Plain
import Derived.Test.YbulkaqlgProg
namespace Go.Proofs
open Go.Shelf
def Yba.lays190_ren : Go.Shelf.Ren := ⟨fun | 190 => 6 | 125 => 10 | 258 => 9 | 128 => 23 | 129 => 24 | 302 => 14 | 303 => 15 | 304 => 16 | 305 => 17 | 306 => 18 | 307 => 19 | 308 => 20 | 309 => 21 | 310 => 22 | 333 => 26 | 329 => 27 | 330 => 28 | 334 => 29 | 335 => 30 | 336 => 31 | 344 => 32 | n => n, fun | 31 => 22 | 9 => 9 | 3 => 3 | 46 => 33 | 0 => 0 | 51 => 47 | 53 => 49 | 4 => 4 | 183 => 40 | 182 => 39 | 131 => 34 | 5 => 5 | 218 => 51 | 222 => 55 | 228 => 57 | 229 => 58 | n => n, fun | n => n⟩
theorem Yba.lays190 : Go.Proofs.Lays.n190 Yba.prog Yba.lays190_ren := {
  mixed := by kernel_rfl
  f125 := Yba.func10.trans (congrArg some (by kernel_rfl))
  f128 := Yba.func23.trans (congrArg some (by kernel_rfl))
  f129 := Yba.func24.trans (congrArg some (by kernel_rfl))
  f190 := Yba.func6.trans (congrArg some (by kernel_rfl))
  f258 := Yba.func9.trans (congrArg some (by kernel_rfl))
  f302 := Yba.func14.trans (congrArg some (by kernel_rfl))
  f303 := Yba.func15.trans (congrArg some (by kernel_rfl))
  f304 := Yba.func16.trans (congrArg some (by kernel_rfl))
  f305 := Yba.func17.trans (congrArg some (by kernel_rfl))
  f306 := Yba.func18.trans (congrArg some (by kernel_rfl))
  f307 := Yba.func19.trans (congrArg some (by kernel_rfl))
  f308 := Yba.func20.trans (congrArg some (by kernel_rfl))
  f309 := Yba.func21.trans (congrArg some (by kernel_rfl))
  f310 := Yba.func22.trans (congrArg some (by kernel_rfl))
  f329 := Yba.func27.trans (congrArg some (by kernel_rfl))
  f330 := Yba.func28.trans (congrArg some (by kernel_rfl))
  f333 := Yba.func26.trans (congrArg some (by kernel_rfl))
  f334 := Yba.func29.trans (congrArg some (by kernel_rfl))
  f335 := Yba.func30.trans (congrArg some (by kernel_rfl))
  f336 := Yba.func31.trans (congrArg some (by kernel_rfl))
  f344 := Yba.func32.trans (congrArg some (by kernel_rfl))
  t0 := Yba.underlying0
  a0 := Yba.isAgg0
  z0 := Yba.sizeOf0
  v0 := Yba.zeroValue0
  t3 := Yba.underlying3
  a3 := Yba.isAgg3
  z3 := Yba.sizeOf3
  v3 := Yba.zeroValue3
  t4 := Yba.underlying4
  a4 := Yba.isAgg4
  z4 := Yba.sizeOf4
  v4 := Yba.zeroValue4
  t5 := Yba.underlying5
  a5 := Yba.isAgg5
  z5 := Yba.sizeOf5
  v5 := Yba.zeroValue5
  t9 := Yba.underlying9
  a9 := Yba.isAgg9
  z9 := Yba.sizeOf9
  v9 := Yba.zeroValue9
  t31 := Yba.underlying22
  a31 := Yba.isAgg22
  z31 := Yba.sizeOf22
  v31 := Yba.zeroValue22
  t46 := Yba.underlying33
  a46 := Yba.isAgg33
  z46 := Yba.sizeOf33
  v46 := Yba.zeroValue33
  t51 := Yba.underlying47
  a51 := Yba.isAgg47
  z51 := Yba.sizeOf47
  v51 := Yba.zeroValue47
  t53 := Yba.underlying49
  a53 := Yba.isAgg49
  z53 := Yba.sizeOf49
  v53 := Yba.zeroValue49
  t131 := Yba.underlying34
  a131 := Yba.isAgg34
  z131 := Yba.sizeOf34
  v131 := Yba.zeroValue34
  t182 := Yba.underlying39
  a182 := Yba.isAgg39
  z182 := Yba.sizeOf39
  v182 := Yba.zeroValue39
  t183 := Yba.underlying40
  a183 := Yba.isAgg40
  z183 := Yba.sizeOf40
  v183 := Yba.zeroValue40
  t218 := Yba.underlying51
  a218 := Yba.isAgg51
  z218 := Yba.sizeOf51
  v218 := Yba.zeroValue51
  t222 := Yba.underlying55
  a222 := Yba.isAgg55
  z222 := Yba.sizeOf55
  v222 := Yba.zeroValue55
  t228 := Yba.underlying57
  a228 := Yba.isAgg57
  z228 := Yba.sizeOf57
  v228 := Yba.zeroValue57
  t229 := Yba.underlying58
  a229 := Yba.isAgg58
  z229 := Yba.sizeOf58
  v229 := Yba.zeroValue58 }
end Go.Proofs
