/-
  slices.Sort at []string: the laying of the shelf's contract at this dump. Written by the kit's lay-plain.mjs for this dump; here under this seat's own names.
-/
import Derived.Shelf.Sort.Plain
import Derived.Shelf.Slices.In.SortNone
import Derived.Test.Qxb6605445aProg
namespace Go.Proofs.Qxb6605445a
open Go.Shelf
def lays190_ren : Go.Shelf.Ren := ⟨fun | 190 => 29 | 125 => 38 | 258 => 37 | 128 => 57 | 129 => 58 | 302 => 49 | 303 => 50 | 304 => 51 | 305 => 52 | 306 => 53 | 307 => 54 | 308 => 42 | 309 => 55 | 310 => 56 | 333 => 64 | 329 => 65 | 330 => 66 | 334 => 67 | 335 => 68 | 336 => 60 | 344 => 72 | n => n, fun | 31 => 22 | 9 => 9 | 3 => 3 | 46 => 55 | 0 => 0 | 51 => 71 | 53 => 73 | 4 => 4 | 183 => 65 | 182 => 64 | 131 => 48 | 5 => 5 | 218 => 74 | 222 => 78 | 228 => 81 | 229 => 82 | n => n, fun | n => n⟩
theorem lays190 : Go.Proofs.Lays.n190 Try.prog lays190_ren := {
  mixed := by kernel_rfl
  f125 := Try.func38.trans (congrArg some (by kernel_rfl))
  f128 := Try.func57.trans (congrArg some (by kernel_rfl))
  f129 := Try.func58.trans (congrArg some (by kernel_rfl))
  f190 := Try.func29.trans (congrArg some (by kernel_rfl))
  f258 := Try.func37.trans (congrArg some (by kernel_rfl))
  f302 := Try.func49.trans (congrArg some (by kernel_rfl))
  f303 := Try.func50.trans (congrArg some (by kernel_rfl))
  f304 := Try.func51.trans (congrArg some (by kernel_rfl))
  f305 := Try.func52.trans (congrArg some (by kernel_rfl))
  f306 := Try.func53.trans (congrArg some (by kernel_rfl))
  f307 := Try.func54.trans (congrArg some (by kernel_rfl))
  f308 := Try.func42.trans (congrArg some (by kernel_rfl))
  f309 := Try.func55.trans (congrArg some (by kernel_rfl))
  f310 := Try.func56.trans (congrArg some (by kernel_rfl))
  f329 := Try.func65.trans (congrArg some (by kernel_rfl))
  f330 := Try.func66.trans (congrArg some (by kernel_rfl))
  f333 := Try.func64.trans (congrArg some (by kernel_rfl))
  f334 := Try.func67.trans (congrArg some (by kernel_rfl))
  f335 := Try.func68.trans (congrArg some (by kernel_rfl))
  f336 := Try.func60.trans (congrArg some (by kernel_rfl))
  f344 := Try.func72.trans (congrArg some (by kernel_rfl))
  t0 := Try.underlying0
  a0 := Try.isAgg0
  z0 := Try.sizeOf0
  v0 := Try.zeroValue0
  t3 := Try.underlying3
  a3 := Try.isAgg3
  z3 := Try.sizeOf3
  v3 := Try.zeroValue3
  t4 := Try.underlying4
  a4 := Try.isAgg4
  z4 := Try.sizeOf4
  v4 := Try.zeroValue4
  t5 := Try.underlying5
  a5 := Try.isAgg5
  z5 := Try.sizeOf5
  v5 := Try.zeroValue5
  t9 := Try.underlying9
  a9 := Try.isAgg9
  z9 := Try.sizeOf9
  v9 := Try.zeroValue9
  t31 := Try.underlying22
  a31 := Try.isAgg22
  z31 := Try.sizeOf22
  v31 := Try.zeroValue22
  t46 := Try.underlying55
  a46 := Try.isAgg55
  z46 := Try.sizeOf55
  v46 := Try.zeroValue55
  t51 := Try.underlying71
  a51 := Try.isAgg71
  z51 := Try.sizeOf71
  v51 := Try.zeroValue71
  t53 := Try.underlying73
  a53 := Try.isAgg73
  z53 := Try.sizeOf73
  v53 := Try.zeroValue73
  t131 := Try.underlying48
  a131 := Try.isAgg48
  z131 := Try.sizeOf48
  v131 := Try.zeroValue48
  t182 := Try.underlying64
  a182 := Try.isAgg64
  z182 := Try.sizeOf64
  v182 := Try.zeroValue64
  t183 := Try.underlying65
  a183 := Try.isAgg65
  z183 := Try.sizeOf65
  v183 := Try.zeroValue65
  t218 := Try.underlying74
  a218 := Try.isAgg74
  z218 := Try.sizeOf74
  v218 := Try.zeroValue74
  t222 := Try.underlying78
  a222 := Try.isAgg78
  z222 := Try.sizeOf78
  v222 := Try.zeroValue78
  t228 := Try.underlying81
  a228 := Try.isAgg81
  z228 := Try.sizeOf81
  v228 := Try.zeroValue81
  t229 := Try.underlying82
  a229 := Try.isAgg82
  z229 := Try.sizeOf82
  v229 := Try.zeroValue82 }
end Go.Proofs.Qxb6605445a
