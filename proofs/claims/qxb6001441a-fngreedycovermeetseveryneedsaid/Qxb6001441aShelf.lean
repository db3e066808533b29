/-
  DERIVED: THE SHELF's CONTRACTS AT THIS DUMP, IN PLAIN WORDS (tools/lay-plain.mjs out of 'Qxb6001441aShelf.lean', which tools/lay-shelf.mjs wrote): THE SAME DECLARATIONS UNDER THE SAME NAMES: 'import', 'namespace', 'open', 'def', 'theorem' AND NOTHING ELSE: no command of the shelf's: FOR A HAND-IN. Each laying: the table of numbers ('.._ren') and one theorem, a field a fact of the dump's own or the kernel's comparison; each contract: ONE APPLICATION.
-/
import Derived.Shelf.Sort.Plain
import Derived.Shelf.Slices.In.SortNone
import Derived.Test.Qxb6001441aProg
namespace Go.Proofs
open Go.Shelf
def Try.lays189_ren : Go.Shelf.Ren := ⟨fun | 189 => 33 | 125 => 35 | 257 => 34 | 128 => 45 | 129 => 46 | 294 => 36 | 295 => 37 | 296 => 38 | 297 => 39 | 298 => 40 | 299 => 41 | 216 => 42 | 300 => 43 | 301 => 44 | 328 => 47 | 329 => 48 | 330 => 49 | 331 => 50 | 332 => 51 | 215 => 52 | 343 => 53 | n => n, fun | 28 => 33 | 3 => 3 | 46 => 68 | 0 => 0 | 51 => 78 | 53 => 80 | 4 => 4 | 183 => 71 | 182 => 70 | 131 => 30 | 5 => 5 | 9 => 9 | 218 => 81 | 222 => 85 | 228 => 88 | 229 => 89 | n => n, fun | n => n⟩
theorem Try.lays189 : Go.Proofs.Lays.n189 Try.prog Try.lays189_ren := {
  mixed := by kernel_rfl
  f125 := Try.func35.trans (congrArg some (by kernel_rfl))
  f128 := Try.func45.trans (congrArg some (by kernel_rfl))
  f129 := Try.func46.trans (congrArg some (by kernel_rfl))
  f189 := Try.func33.trans (congrArg some (by kernel_rfl))
  f215 := Try.func52.trans (congrArg some (by kernel_rfl))
  f216 := Try.func42.trans (congrArg some (by kernel_rfl))
  f257 := Try.func34.trans (congrArg some (by kernel_rfl))
  f294 := Try.func36.trans (congrArg some (by kernel_rfl))
  f295 := Try.func37.trans (congrArg some (by kernel_rfl))
  f296 := Try.func38.trans (congrArg some (by kernel_rfl))
  f297 := Try.func39.trans (congrArg some (by kernel_rfl))
  f298 := Try.func40.trans (congrArg some (by kernel_rfl))
  f299 := Try.func41.trans (congrArg some (by kernel_rfl))
  f300 := Try.func43.trans (congrArg some (by kernel_rfl))
  f301 := Try.func44.trans (congrArg some (by kernel_rfl))
  f328 := Try.func47.trans (congrArg some (by kernel_rfl))
  f329 := Try.func48.trans (congrArg some (by kernel_rfl))
  f330 := Try.func49.trans (congrArg some (by kernel_rfl))
  f331 := Try.func50.trans (congrArg some (by kernel_rfl))
  f332 := Try.func51.trans (congrArg some (by kernel_rfl))
  f343 := Try.func53.trans (congrArg some (by kernel_rfl))
  t0 := Try.underlying0
  a0 := Try.isAgg0
  z0 := Try.sizeOf0
  v0 := Try.zeroValue0
  t3 := Try.underlying3
  a3 := Try.isAgg3
  z3 := Try.sizeOf3
  v3 := Try.zeroValue3
  t4 := Try.underlying4
  a4 := Try.isAgg4
  z4 := Try.sizeOf4
  v4 := Try.zeroValue4
  t5 := Try.underlying5
  a5 := Try.isAgg5
  z5 := Try.sizeOf5
  v5 := Try.zeroValue5
  t9 := Try.underlying9
  a9 := Try.isAgg9
  z9 := Try.sizeOf9
  v9 := Try.zeroValue9
  t28 := Try.underlying33
  a28 := Try.isAgg33
  z28 := Try.sizeOf33
  v28 := Try.zeroValue33
  t46 := Try.underlying68
  a46 := Try.isAgg68
  z46 := Try.sizeOf68
  v46 := Try.zeroValue68
  t51 := Try.underlying78
  a51 := Try.isAgg78
  z51 := Try.sizeOf78
  v51 := Try.zeroValue78
  t53 := Try.underlying80
  a53 := Try.isAgg80
  z53 := Try.sizeOf80
  v53 := Try.zeroValue80
  t131 := Try.underlying30
  a131 := Try.isAgg30
  z131 := Try.sizeOf30
  v131 := Try.zeroValue30
  t182 := Try.underlying70
  a182 := Try.isAgg70
  z182 := Try.sizeOf70
  v182 := Try.zeroValue70
  t183 := Try.underlying71
  a183 := Try.isAgg71
  z183 := Try.sizeOf71
  v183 := Try.zeroValue71
  t218 := Try.underlying81
  a218 := Try.isAgg81
  z218 := Try.sizeOf81
  v218 := Try.zeroValue81
  t222 := Try.underlying85
  a222 := Try.isAgg85
  z222 := Try.sizeOf85
  v222 := Try.zeroValue85
  t228 := Try.underlying88
  a228 := Try.isAgg88
  z228 := Try.sizeOf88
  v228 := Try.zeroValue88
  t229 := Try.underlying89
  a229 := Try.isAgg89
  z229 := Try.sizeOf89
  v229 := Try.zeroValue89 }
open Go.Sort Go.RowKit in
theorem Try.slices_Sort_int (blk off cap : Nat) (zs : List Int) (w : World) (hH : Holds (Value.int .i64) w blk off zs.toArray) (hblk : blk < w.heap.size) (hsz : zs.length < 4611686018427387904) :
    Calls Try.prog 33 #[.slice (some ⟨blk, off, none⟩) zs.length cap] w fun e w' =>
      e = .returned (.tuple #[]) ∧ ∃ n os, w' = grow (putRow (Value.int .i64) (Sort.ahead w n) blk off (zs.mergeSort fun x y => decide (x ≤ y)).toArray) os := Any.slices_Sort_int Try.lays189 blk off cap zs w hH hblk hsz
open Go.RowKit Go.Sort in
/-- .. and plain. (LAID: no walk: one application.) -/
theorem Try.slices_Sort_int_none (p : Option Addr) (cap : Nat) (w : World) :
    Calls Try.prog 33 #[.slice p 0 cap] w fun e w' => e = .returned (.tuple #[]) ∧ w' = w := Any.slices_Sort_int_none Try.lays189 p cap w
end Go.Proofs
