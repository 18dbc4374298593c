/- The contract of slices.Sort at []string, taken off the shelf and laid at this program in plain words (by the tool lay-plain). -/
import Derived.Shelf.Sort.Plain
import Derived.Test.Qxb6605168aProg
namespace Go.Proofs
open Go.Shelf Go.Sort
def Try.lays190_ren : Go.Shelf.Ren := ⟨fun | 190 => 29 | 125 => 39 | 258 => 38 | 128 => 49 | 129 => 50 | 302 => 40 | 303 => 41 | 304 => 42 | 305 => 43 | 306 => 44 | 307 => 45 | 308 => 46 | 309 => 47 | 310 => 48 | 333 => 51 | 329 => 52 | 330 => 53 | 334 => 54 | 335 => 55 | 336 => 56 | 344 => 57 | n => n, fun | 31 => 22 | 9 => 9 | 3 => 3 | 46 => 68 | 0 => 0 | 51 => 78 | 53 => 80 | 4 => 4 | 183 => 71 | 182 => 70 | 131 => 75 | 5 => 5 | 218 => 81 | 222 => 85 | 228 => 88 | 229 => 89 | n => n, fun | n => n⟩
theorem Try.lays190 : Go.Proofs.Lays.n190 Try.prog Try.lays190_ren := {
  mixed := by kernel_rfl
  f125 := Try.func39.trans (congrArg some (by kernel_rfl))
  f128 := Try.func49.trans (congrArg some (by kernel_rfl))
  f129 := Try.func50.trans (congrArg some (by kernel_rfl))
  f190 := Try.func29.trans (congrArg some (by kernel_rfl))
  f258 := Try.func38.trans (congrArg some (by kernel_rfl))
  f302 := Try.func40.trans (congrArg some (by kernel_rfl))
  f303 := Try.func41.trans (congrArg some (by kernel_rfl))
  f304 := Try.func42.trans (congrArg some (by kernel_rfl))
  f305 := Try.func43.trans (congrArg some (by kernel_rfl))
  f306 := Try.func44.trans (congrArg some (by kernel_rfl))
  f307 := Try.func45.trans (congrArg some (by kernel_rfl))
  f308 := Try.func46.trans (congrArg some (by kernel_rfl))
  f309 := Try.func47.trans (congrArg some (by kernel_rfl))
  f310 := Try.func48.trans (congrArg some (by kernel_rfl))
  f329 := Try.func52.trans (congrArg some (by kernel_rfl))
  f330 := Try.func53.trans (congrArg some (by kernel_rfl))
  f333 := Try.func51.trans (congrArg some (by kernel_rfl))
  f334 := Try.func54.trans (congrArg some (by kernel_rfl))
  f335 := Try.func55.trans (congrArg some (by kernel_rfl))
  f336 := Try.func56.trans (congrArg some (by kernel_rfl))
  f344 := Try.func57.trans (congrArg some (by kernel_rfl))
  t0 := Try.underlying0
  a0 := Try.isAgg0
  z0 := Try.sizeOf0
  v0 := Try.zeroValue0
  t3 := Try.underlying3
  a3 := Try.isAgg3
  z3 := Try.sizeOf3
  v3 := Try.zeroValue3
  t4 := Try.underlying4
  a4 := Try.isAgg4
  z4 := Try.sizeOf4
  v4 := Try.zeroValue4
  t5 := Try.underlying5
  a5 := Try.isAgg5
  z5 := Try.sizeOf5
  v5 := Try.zeroValue5
  t9 := Try.underlying9
  a9 := Try.isAgg9
  z9 := Try.sizeOf9
  v9 := Try.zeroValue9
  t31 := Try.underlying22
  a31 := Try.isAgg22
  z31 := Try.sizeOf22
  v31 := Try.zeroValue22
  t46 := Try.underlying68
  a46 := Try.isAgg68
  z46 := Try.sizeOf68
  v46 := Try.zeroValue68
  t51 := Try.underlying78
  a51 := Try.isAgg78
  z51 := Try.sizeOf78
  v51 := Try.zeroValue78
  t53 := Try.underlying80
  a53 := Try.isAgg80
  z53 := Try.sizeOf80
  v53 := Try.zeroValue80
  t131 := Try.underlying75
  a131 := Try.isAgg75
  z131 := Try.sizeOf75
  v131 := Try.zeroValue75
  t182 := Try.underlying70
  a182 := Try.isAgg70
  z182 := Try.sizeOf70
  v182 := Try.zeroValue70
  t183 := Try.underlying71
  a183 := Try.isAgg71
  z183 := Try.sizeOf71
  v183 := Try.zeroValue71
  t218 := Try.underlying81
  a218 := Try.isAgg81
  z218 := Try.sizeOf81
  v218 := Try.zeroValue81
  t222 := Try.underlying85
  a222 := Try.isAgg85
  z222 := Try.sizeOf85
  v222 := Try.zeroValue85
  t228 := Try.underlying88
  a228 := Try.isAgg88
  z228 := Try.sizeOf88
  v228 := Try.zeroValue88
  t229 := Try.underlying89
  a229 := Try.isAgg89
  z229 := Try.sizeOf89
  v229 := Try.zeroValue89 }

/-- slices.Sort of a slice of strings that is not nil. -/
theorem Try.sort_any (blk off cap : Nat) (ss : List (List UInt8)) (w : World) (hH : Holds encStr w blk off ss.toArray) (hblk : blk < w.heap.size) (hsz : ss.length < 4611686018427387904) :
    Calls Try.prog 29 #[.slice (some ⟨blk, off, none⟩) ss.length cap] w fun e w' =>
      e = .returned (.tuple #[]) ∧ ∃ n os, w' = grow (putRow encStr (Sort.ahead w n) blk off (ss.mergeSort fun x y => decide (x ≤ y)).toArray) os :=
  Any.slices_Sort_string Try.lays190 blk off cap ss w hH hblk hsz

end Go.Proofs
