/-
  DERIVED: THE SHELF's CONTRACTS AT THIS DUMP, IN PLAIN WORDS (tools/lay-plain.mjs out of 'YbaIter.lean', which tools/lay-shelf.mjs wrote): THE SAME DECLARATIONS UNDER THE SAME NAMES: 'import', 'namespace', 'open', 'def', 'theorem' AND NOTHING ELSE: no command of the shelf's: FOR A HAND-IN. Each laying: the table of numbers ('.._ren') and one theorem, a field a fact of the dump's own or the kernel's comparison; each contract: ONE APPLICATION.
-/
import Derived.Shelf.Sort.Plain
import Derived.Shelf.Slices.In.SortNone
import Derived.Shelf.SlIter.Nil
import Derived.Ground.GgzProg
import Derived.Test.YbulkdqxmProg
namespace Go.Proofs
open Go.Shelf
def Yba.lays190_ren : Go.Shelf.Ren := ⟨fun | 190 => 22 | 125 => 26 | 258 => 25 | 128 => 36 | 129 => 37 | 302 => 27 | 303 => 28 | 304 => 29 | 305 => 30 | 306 => 31 | 307 => 32 | 308 => 33 | 309 => 34 | 310 => 35 | 333 => 38 | 329 => 39 | 330 => 40 | 334 => 41 | 335 => 42 | 336 => 43 | 344 => 44 | n => n, fun | 31 => 23 | 9 => 9 | 3 => 3 | 46 => 82 | 0 => 0 | 51 => 93 | 53 => 95 | 4 => 4 | 183 => 85 | 182 => 84 | 131 => 90 | 5 => 5 | 218 => 96 | 222 => 100 | 228 => 102 | 229 => 103 | n => n, fun | n => n⟩
theorem Yba.lays190 : Go.Proofs.Lays.n190 Yba.prog Yba.lays190_ren := {
  mixed := by kernel_rfl
  f125 := Yba.func26.trans (congrArg some (by kernel_rfl))
  f128 := Yba.func36.trans (congrArg some (by kernel_rfl))
  f129 := Yba.func37.trans (congrArg some (by kernel_rfl))
  f190 := Yba.func22.trans (congrArg some (by kernel_rfl))
  f258 := Yba.func25.trans (congrArg some (by kernel_rfl))
  f302 := Yba.func27.trans (congrArg some (by kernel_rfl))
  f303 := Yba.func28.trans (congrArg some (by kernel_rfl))
  f304 := Yba.func29.trans (congrArg some (by kernel_rfl))
  f305 := Yba.func30.trans (congrArg some (by kernel_rfl))
  f306 := Yba.func31.trans (congrArg some (by kernel_rfl))
  f307 := Yba.func32.trans (congrArg some (by kernel_rfl))
  f308 := Yba.func33.trans (congrArg some (by kernel_rfl))
  f309 := Yba.func34.trans (congrArg some (by kernel_rfl))
  f310 := Yba.func35.trans (congrArg some (by kernel_rfl))
  f329 := Yba.func39.trans (congrArg some (by kernel_rfl))
  f330 := Yba.func40.trans (congrArg some (by kernel_rfl))
  f333 := Yba.func38.trans (congrArg some (by kernel_rfl))
  f334 := Yba.func41.trans (congrArg some (by kernel_rfl))
  f335 := Yba.func42.trans (congrArg some (by kernel_rfl))
  f336 := Yba.func43.trans (congrArg some (by kernel_rfl))
  f344 := Yba.func44.trans (congrArg some (by kernel_rfl))
  t0 := Yba.underlying0
  a0 := Yba.isAgg0
  z0 := Yba.sizeOf0
  v0 := Yba.zeroValue0
  t3 := Yba.underlying3
  a3 := Yba.isAgg3
  z3 := Yba.sizeOf3
  v3 := Yba.zeroValue3
  t4 := Yba.underlying4
  a4 := Yba.isAgg4
  z4 := Yba.sizeOf4
  v4 := Yba.zeroValue4
  t5 := Yba.underlying5
  a5 := Yba.isAgg5
  z5 := Yba.sizeOf5
  v5 := Yba.zeroValue5
  t9 := Yba.underlying9
  a9 := Yba.isAgg9
  z9 := Yba.sizeOf9
  v9 := Yba.zeroValue9
  t31 := Yba.underlying23
  a31 := Yba.isAgg23
  z31 := Yba.sizeOf23
  v31 := Yba.zeroValue23
  t46 := Yba.underlying82
  a46 := Yba.isAgg82
  z46 := Yba.sizeOf82
  v46 := Yba.zeroValue82
  t51 := Yba.underlying93
  a51 := Yba.isAgg93
  z51 := Yba.sizeOf93
  v51 := Yba.zeroValue93
  t53 := Yba.underlying95
  a53 := Yba.isAgg95
  z53 := Yba.sizeOf95
  v53 := Yba.zeroValue95
  t131 := Yba.underlying90
  a131 := Yba.isAgg90
  z131 := Yba.sizeOf90
  v131 := Yba.zeroValue90
  t182 := Yba.underlying84
  a182 := Yba.isAgg84
  z182 := Yba.sizeOf84
  v182 := Yba.zeroValue84
  t183 := Yba.underlying85
  a183 := Yba.isAgg85
  z183 := Yba.sizeOf85
  v183 := Yba.zeroValue85
  t218 := Yba.underlying96
  a218 := Yba.isAgg96
  z218 := Yba.sizeOf96
  v218 := Yba.zeroValue96
  t222 := Yba.underlying100
  a222 := Yba.isAgg100
  z222 := Yba.sizeOf100
  v222 := Yba.zeroValue100
  t228 := Yba.underlying102
  a228 := Yba.isAgg102
  z228 := Yba.sizeOf102
  v228 := Yba.zeroValue102
  t229 := Yba.underlying103
  a229 := Yba.isAgg103
  z229 := Yba.sizeOf103
  v229 := Yba.zeroValue103 }
open Go.Sort Go.RowKit in
theorem Yba.slices_Sort_string (blk off cap : Nat) (ss : List (List UInt8)) (w : World) (hH : Holds encStr w blk off ss.toArray) (hblk : blk < w.heap.size) (hsz : ss.length < 4611686018427387904) :
    Calls Yba.prog 22 #[.slice (some ⟨blk, off, none⟩) ss.length cap] w fun e w' =>
      e = .returned (.tuple #[]) ∧ ∃ n os, w' = grow (putRow encStr (Sort.ahead w n) blk off (ss.mergeSort fun x y => decide (x ≤ y)).toArray) os := Any.slices_Sort_string Yba.lays190 blk off cap ss w hH hblk hsz
open Go.RowKit Go.Sort in
/-- .. and plain. (LAID: no walk: one application.) -/
theorem Yba.slices_Sort_string_none (p : Option Addr) (cap : Nat) (w : World) :
    Calls Yba.prog 22 #[.slice p 0 cap] w fun e w' => e = .returned (.tuple #[]) ∧ w' = w := Any.slices_Sort_string_none Yba.lays190 p cap w
def Yba.keys21_ren : Go.Shelf.Ren := ⟨fun | 7 => 21 | 10 => 24 | n => n, fun | 23 => 40 | 26 => 9 | 3 => 9 | 28 => 75 | 0 => 0 | 27 => 74 | 33 => 79 | 4 => 4 | n => n, fun | n => n⟩
theorem Yba.keys21 : Go.Proofs.SlLaysZ.n7 Yba.prog Yba.keys21_ren := {
  mixed := by kernel_rfl
  f7 := ⟨Yba.f21.name, by decide, Yba.func21.trans (congrArg some (by kernel_rfl))⟩
  f10 := ⟨Yba.f24.name, by decide, Yba.func24.trans (congrArg some (by kernel_rfl))⟩
  t0 := Yba.underlying0
  a0 := Yba.isAgg0
  z0 := Yba.sizeOf0
  v0 := Yba.zeroValue0
  t4 := Yba.underlying4
  a4 := Yba.isAgg4
  z4 := Yba.sizeOf4
  v4 := Yba.zeroValue4
  t23 := Yba.underlying40
  a23 := Yba.isAgg40
  z23 := Yba.sizeOf40
  v23 := Yba.zeroValue40
  t26 := Yba.underlying9
  a26 := Yba.isAgg9
  z26 := Yba.sizeOf9
  v26 := Yba.zeroValue9
  t27 := Yba.underlying74
  a27 := Yba.isAgg74
  z27 := Yba.sizeOf74
  v27 := Yba.zeroValue74
  t28 := Yba.underlying75
  a28 := Yba.isAgg75
  z28 := Yba.sizeOf75
  v28 := Yba.zeroValue75
  t33 := Yba.underlying79
  a33 := Yba.isAgg79
  z33 := Yba.sizeOf79
  v33 := Yba.zeroValue79 }
def Yba.collect20_ren : Go.Shelf.Ren := ⟨fun | 8 => 20 | 11 => 23 | n => n, fun | 26 => 9 | 28 => 75 | 24 => 23 | 0 => 0 | 33 => 79 | 4 => 4 | n => n, fun | n => n⟩
theorem Yba.collect20 : Go.Proofs.SlLaysZ.n8 Yba.prog Yba.collect20_ren := {
  mixed := by kernel_rfl
  f8 := ⟨Yba.f20.name, by decide, Yba.func20.trans (congrArg some (by kernel_rfl))⟩
  f11 := ⟨Yba.f23.name, by decide, Yba.func23.trans (congrArg some (by kernel_rfl))⟩
  t0 := Yba.underlying0
  a0 := Yba.isAgg0
  z0 := Yba.sizeOf0
  v0 := Yba.zeroValue0
  t24 := Yba.underlying23
  a24 := Yba.isAgg23
  z24 := Yba.sizeOf23
  v24 := Yba.zeroValue23
  t26 := Yba.underlying9
  a26 := Yba.isAgg9
  z26 := Yba.sizeOf9
  v26 := Yba.zeroValue9
  t28 := Yba.underlying75
  a28 := Yba.isAgg75
  z28 := Yba.sizeOf75
  v28 := Yba.zeroValue75
  i26 := by kernel_rfl }
end Go.Proofs
