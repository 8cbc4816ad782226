/-
  The library's contracts at this dump, in plain words: written by the kit's lay-plain tool for this program; the table of numbers and, a field each, the kernel's comparison of the bodies.
-/
import Derived.Shelf.Small.Strs
import Derived.Shelf.Sort.Plain
import Derived.Shelf.Slices.CompactS
import Derived.Shelf.SlCmpFuncs.BinarySearchFunc
import Derived.Shelf.SlCmpFuncs.None
import Derived.Test.YbulkakowProg
namespace Go.Proofs
open Go.Shelf
def Yba.laysSort_ren : Go.Shelf.Ren := ⟨fun | 190 => 13 | 125 => 23 | 258 => 22 | 128 => 40 | 129 => 41 | 302 => 31 | 303 => 32 | 304 => 33 | 305 => 34 | 306 => 35 | 307 => 36 | 308 => 37 | 309 => 38 | 310 => 39 | 333 => 45 | 329 => 46 | 330 => 47 | 334 => 48 | 335 => 49 | 336 => 50 | 344 => 51 | n => n, fun | 31 => 29 | 9 => 9 | 3 => 3 | 46 => 61 | 0 => 0 | 51 => 74 | 53 => 76 | 4 => 4 | 183 => 67 | 182 => 66 | 131 => 54 | 5 => 5 | 218 => 79 | 222 => 83 | 228 => 86 | 229 => 87 | n => n, fun | n => n⟩
theorem Yba.laysSort : Go.Proofs.Lays.n190 Yba.prog Yba.laysSort_ren := {
  mixed := by kernel_rfl
  f125 := Yba.func23.trans (congrArg some (by kernel_rfl))
  f128 := Yba.func40.trans (congrArg some (by kernel_rfl))
  f129 := Yba.func41.trans (congrArg some (by kernel_rfl))
  f190 := Yba.func13.trans (congrArg some (by kernel_rfl))
  f258 := Yba.func22.trans (congrArg some (by kernel_rfl))
  f302 := Yba.func31.trans (congrArg some (by kernel_rfl))
  f303 := Yba.func32.trans (congrArg some (by kernel_rfl))
  f304 := Yba.func33.trans (congrArg some (by kernel_rfl))
  f305 := Yba.func34.trans (congrArg some (by kernel_rfl))
  f306 := Yba.func35.trans (congrArg some (by kernel_rfl))
  f307 := Yba.func36.trans (congrArg some (by kernel_rfl))
  f308 := Yba.func37.trans (congrArg some (by kernel_rfl))
  f309 := Yba.func38.trans (congrArg some (by kernel_rfl))
  f310 := Yba.func39.trans (congrArg some (by kernel_rfl))
  f329 := Yba.func46.trans (congrArg some (by kernel_rfl))
  f330 := Yba.func47.trans (congrArg some (by kernel_rfl))
  f333 := Yba.func45.trans (congrArg some (by kernel_rfl))
  f334 := Yba.func48.trans (congrArg some (by kernel_rfl))
  f335 := Yba.func49.trans (congrArg some (by kernel_rfl))
  f336 := Yba.func50.trans (congrArg some (by kernel_rfl))
  f344 := Yba.func51.trans (congrArg some (by kernel_rfl))
  t0 := Yba.underlying0
  a0 := Yba.isAgg0
  z0 := Yba.sizeOf0
  v0 := Yba.zeroValue0
  t3 := Yba.underlying3
  a3 := Yba.isAgg3
  z3 := Yba.sizeOf3
  v3 := Yba.zeroValue3
  t4 := Yba.underlying4
  a4 := Yba.isAgg4
  z4 := Yba.sizeOf4
  v4 := Yba.zeroValue4
  t5 := Yba.underlying5
  a5 := Yba.isAgg5
  z5 := Yba.sizeOf5
  v5 := Yba.zeroValue5
  t9 := Yba.underlying9
  a9 := Yba.isAgg9
  z9 := Yba.sizeOf9
  v9 := Yba.zeroValue9
  t31 := Yba.underlying29
  a31 := Yba.isAgg29
  z31 := Yba.sizeOf29
  v31 := Yba.zeroValue29
  t46 := Yba.underlying61
  a46 := Yba.isAgg61
  z46 := Yba.sizeOf61
  v46 := Yba.zeroValue61
  t51 := Yba.underlying74
  a51 := Yba.isAgg74
  z51 := Yba.sizeOf74
  v51 := Yba.zeroValue74
  t53 := Yba.underlying76
  a53 := Yba.isAgg76
  z53 := Yba.sizeOf76
  v53 := Yba.zeroValue76
  t131 := Yba.underlying54
  a131 := Yba.isAgg54
  z131 := Yba.sizeOf54
  v131 := Yba.zeroValue54
  t182 := Yba.underlying66
  a182 := Yba.isAgg66
  z182 := Yba.sizeOf66
  v182 := Yba.zeroValue66
  t183 := Yba.underlying67
  a183 := Yba.isAgg67
  z183 := Yba.sizeOf67
  v183 := Yba.zeroValue67
  t218 := Yba.underlying79
  a218 := Yba.isAgg79
  z218 := Yba.sizeOf79
  v218 := Yba.zeroValue79
  t222 := Yba.underlying83
  a222 := Yba.isAgg83
  z222 := Yba.sizeOf83
  v222 := Yba.zeroValue83
  t228 := Yba.underlying86
  a228 := Yba.isAgg86
  z228 := Yba.sizeOf86
  v228 := Yba.zeroValue86
  t229 := Yba.underlying87
  a229 := Yba.isAgg87
  z229 := Yba.sizeOf87
  v229 := Yba.zeroValue87 }
def Yba.laysCompact_ren : Go.Shelf.Ren := ⟨fun | 194 => 14 | n => n, fun | 31 => 29 | 9 => 9 | 3 => 3 | 4 => 4 | 0 => 0 | n => n, fun | n => n⟩
theorem Yba.laysCompact : Go.Proofs.Lays.n194 Yba.prog Yba.laysCompact_ren := {
  mixed := by kernel_rfl
  f194 := Yba.func14.trans (congrArg some (by kernel_rfl))
  t0 := Yba.underlying0
  a0 := Yba.isAgg0
  z0 := Yba.sizeOf0
  v0 := Yba.zeroValue0
  t3 := Yba.underlying3
  a3 := Yba.isAgg3
  z3 := Yba.sizeOf3
  v3 := Yba.zeroValue3
  t4 := Yba.underlying4
  a4 := Yba.isAgg4
  z4 := Yba.sizeOf4
  v4 := Yba.zeroValue4
  t9 := Yba.underlying9
  a9 := Yba.isAgg9
  z9 := Yba.sizeOf9
  v9 := Yba.zeroValue9
  t31 := Yba.underlying29
  a31 := Yba.isAgg29
  z31 := Yba.sizeOf29
  v31 := Yba.zeroValue29 }
def Yba.laysCompare_ren : Go.Shelf.Ren := ⟨fun | 106 => 17 | 213 => 24 | 265 => 42 | n => n, fun | 9 => 9 | 3 => 3 | n => n, fun | n => n⟩
theorem Yba.laysCompare : Go.Proofs.Lays.n106 Yba.prog Yba.laysCompare_ren := {
  mixed := by kernel_rfl
  f106 := Yba.func17.trans (congrArg some (by kernel_rfl))
  f213 := Yba.func24.trans (congrArg some (by kernel_rfl))
  f265 := Yba.func42.trans (congrArg some (by kernel_rfl))
  t3 := Yba.underlying3
  a3 := Yba.isAgg3
  z3 := Yba.sizeOf3
  v3 := Yba.zeroValue3
  t9 := Yba.underlying9
  a9 := Yba.isAgg9
  z9 := Yba.sizeOf9
  v9 := Yba.zeroValue9 }
def Yba.laysSearch_ren : Go.Shelf.Ren := ⟨fun | 14 => 15 | n => n, fun | 22 => 30 | 24 => 46 | 29 => 9 | 32 => 57 | 3 => 3 | 4 => 4 | 35 => 61 | 0 => 0 | n => n, fun | n => n⟩
set_option maxRecDepth 1000000 in
theorem Yba.laysSearch : Go.Proofs.SlLaysG2.n14 Yba.prog Yba.laysSearch_ren := {
  mixed := by kernel_rfl
  f14 := ⟨Yba.f15.name, by decide, Yba.func15.trans (congrArg some (by kernel_rfl))⟩
  t0 := Yba.underlying0
  a0 := Yba.isAgg0
  z0 := Yba.sizeOf0
  v0 := Yba.zeroValue0
  t3 := Yba.underlying3
  a3 := Yba.isAgg3
  z3 := Yba.sizeOf3
  v3 := Yba.zeroValue3
  t4 := Yba.underlying4
  a4 := Yba.isAgg4
  z4 := Yba.sizeOf4
  v4 := Yba.zeroValue4
  t22 := Yba.underlying30
  a22 := Yba.isAgg30
  z22 := Yba.sizeOf30
  v22 := Yba.zeroValue30
  a24 := Yba.isAgg46
  z24 := Yba.sizeOf46
  a29 := Yba.isAgg9
  z29 := Yba.sizeOf9
  t32 := Yba.underlying57
  a32 := Yba.isAgg57
  z32 := Yba.sizeOf57
  v32 := Yba.zeroValue57
  t35 := Yba.underlying61
  a35 := Yba.isAgg61
  z35 := Yba.sizeOf61
  v35 := Yba.zeroValue61 }
end Go.Proofs
