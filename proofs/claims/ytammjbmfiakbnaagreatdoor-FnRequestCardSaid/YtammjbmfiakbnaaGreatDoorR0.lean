/-
  The contract of a sort, at this program (laid in plain words by the shelf's program).
-/
import Derived.Test.YtammjbmfiakbnaaGreatDoorProg
import Derived.Ground.NamesProg
import Derived.Ground.Names2Prog
import Derived.Shelf.Sort.Plain
namespace Go.Proofs
set_option maxHeartbeats 2000000
set_option maxRecDepth 100000
open Go.Shelf
def Tryz.laysSort_ren : Go.Shelf.Ren := ⟨fun | 190 => 286 | 125 => 192 | 258 => 287 | 128 => 220 | 129 => 213 | 302 => 288 | 303 => 289 | 304 => 290 | 305 => 291 | 306 => 292 | 307 => 293 | 308 => 294 | 309 => 295 | 310 => 296 | 333 => 297 | 329 => 298 | 330 => 299 | 334 => 300 | 335 => 301 | 336 => 302 | 344 => 303 | n => n, fun | 31 => 28 | 9 => 9 | 3 => 3 | 46 => 218 | 0 => 0 | 51 => 219 | 53 => 220 | 4 => 4 | 183 => 446 | 182 => 445 | 131 => 353 | 5 => 5 | 218 => 451 | 222 => 455 | 228 => 457 | 229 => 376 | n => n, fun | n => n⟩
theorem Tryz.laysSort : Go.Proofs.Lays.n190 Tryz.prog Tryz.laysSort_ren := {
  mixed := by kernel_rfl
  f125 := Tryz.func192.trans (congrArg some (by kernel_rfl))
  f128 := Tryz.func220.trans (congrArg some (by kernel_rfl))
  f129 := Tryz.func213.trans (congrArg some (by kernel_rfl))
  f190 := Tryz.func286.trans (congrArg some (by kernel_rfl))
  f258 := Tryz.func287.trans (congrArg some (by kernel_rfl))
  f302 := Tryz.func288.trans (congrArg some (by kernel_rfl))
  f303 := Tryz.func289.trans (congrArg some (by kernel_rfl))
  f304 := Tryz.func290.trans (congrArg some (by kernel_rfl))
  f305 := Tryz.func291.trans (congrArg some (by kernel_rfl))
  f306 := Tryz.func292.trans (congrArg some (by kernel_rfl))
  f307 := Tryz.func293.trans (congrArg some (by kernel_rfl))
  f308 := Tryz.func294.trans (congrArg some (by kernel_rfl))
  f309 := Tryz.func295.trans (congrArg some (by kernel_rfl))
  f310 := Tryz.func296.trans (congrArg some (by kernel_rfl))
  f329 := Tryz.func298.trans (congrArg some (by kernel_rfl))
  f330 := Tryz.func299.trans (congrArg some (by kernel_rfl))
  f333 := Tryz.func297.trans (congrArg some (by kernel_rfl))
  f334 := Tryz.func300.trans (congrArg some (by kernel_rfl))
  f335 := Tryz.func301.trans (congrArg some (by kernel_rfl))
  f336 := Tryz.func302.trans (congrArg some (by kernel_rfl))
  f344 := Tryz.func303.trans (congrArg some (by kernel_rfl))
  t0 := Tryz.underlying0
  a0 := Tryz.isAgg0
  z0 := Tryz.sizeOf0
  v0 := Tryz.zeroValue0
  t3 := Tryz.underlying3
  a3 := Tryz.isAgg3
  z3 := Tryz.sizeOf3
  v3 := Tryz.zeroValue3
  t4 := Tryz.underlying4
  a4 := Tryz.isAgg4
  z4 := Tryz.sizeOf4
  v4 := Tryz.zeroValue4
  t5 := Tryz.underlying5
  a5 := Tryz.isAgg5
  z5 := Tryz.sizeOf5
  v5 := Tryz.zeroValue5
  t9 := Tryz.underlying9
  a9 := Tryz.isAgg9
  z9 := Tryz.sizeOf9
  v9 := Tryz.zeroValue9
  t31 := Tryz.underlying28
  a31 := Tryz.isAgg28
  z31 := Tryz.sizeOf28
  v31 := Tryz.zeroValue28
  t46 := Tryz.underlying218
  a46 := Tryz.isAgg218
  z46 := Tryz.sizeOf218
  v46 := Tryz.zeroValue218
  t51 := Tryz.underlying219
  a51 := Tryz.isAgg219
  z51 := Tryz.sizeOf219
  v51 := Tryz.zeroValue219
  t53 := Tryz.underlying220
  a53 := Tryz.isAgg220
  z53 := Tryz.sizeOf220
  v53 := Tryz.zeroValue220
  t131 := Tryz.underlying353
  a131 := Tryz.isAgg353
  z131 := Tryz.sizeOf353
  v131 := Tryz.zeroValue353
  t182 := Tryz.underlying445
  a182 := Tryz.isAgg445
  z182 := Tryz.sizeOf445
  v182 := Tryz.zeroValue445
  t183 := Tryz.underlying446
  a183 := Tryz.isAgg446
  z183 := Tryz.sizeOf446
  v183 := Tryz.zeroValue446
  t218 := Tryz.underlying451
  a218 := Tryz.isAgg451
  z218 := Tryz.sizeOf451
  v218 := Tryz.zeroValue451
  t222 := Tryz.underlying455
  a222 := Tryz.isAgg455
  z222 := Tryz.sizeOf455
  v222 := Tryz.zeroValue455
  t228 := Tryz.underlying457
  a228 := Tryz.isAgg457
  z228 := Tryz.sizeOf457
  v228 := Tryz.zeroValue457
  t229 := Tryz.underlying376
  a229 := Tryz.isAgg376
  z229 := Tryz.sizeOf376
  v229 := Tryz.zeroValue376 }
end Go.Proofs
