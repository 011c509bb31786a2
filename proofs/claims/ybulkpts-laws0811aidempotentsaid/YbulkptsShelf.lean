/-
  DERIVED: THE SHELF's CONTRACTS AT THIS DUMP, IN PLAIN WORDS (tools/lay-plain.mjs out of 'YbaShelf.lean', which tools/lay-shelf.mjs wrote): THE SAME DECLARATIONS UNDER THE SAME NAMES: 'import', 'namespace', 'open', 'def', 'theorem' AND NOTHING ELSE: no command of the shelf's: FOR A HAND-IN. Each laying: the table of numbers ('.._ren') and one theorem, a field a fact of the dump's own or the kernel's comparison; each contract: ONE APPLICATION.
-/
import Derived.Shelf.Sort.Plain
import Derived.Shelf.Slices.In.SortNone
import Derived.Test.YbulkptsProg
namespace Go.Proofs
open Go.Shelf
def Yba.lays190_ren : Go.Shelf.Ren := ⟨fun | 190 => 8 | 125 => 12 | 258 => 11 | 128 => 23 | 129 => 24 | 302 => 14 | 303 => 15 | 304 => 16 | 305 => 17 | 306 => 18 | 307 => 19 | 308 => 20 | 309 => 21 | 310 => 22 | 333 => 25 | 329 => 26 | 330 => 27 | 334 => 28 | 335 => 29 | 336 => 30 | 344 => 31 | n => n, fun | 31 => 26 | 9 => 9 | 3 => 3 | 46 => 45 | 0 => 0 | 51 => 56 | 53 => 58 | 4 => 4 | 183 => 49 | 182 => 48 | 131 => 38 | 5 => 5 | 218 => 59 | 222 => 63 | 228 => 66 | 229 => 67 | n => n, fun | n => n⟩
theorem Yba.lays190 : Go.Proofs.Lays.n190 Yba.prog Yba.lays190_ren := {
  mixed := by kernel_rfl
  f125 := Yba.func12.trans (congrArg some (by kernel_rfl))
  f128 := Yba.func23.trans (congrArg some (by kernel_rfl))
  f129 := Yba.func24.trans (congrArg some (by kernel_rfl))
  f190 := Yba.func8.trans (congrArg some (by kernel_rfl))
  f258 := Yba.func11.trans (congrArg some (by kernel_rfl))
  f302 := Yba.func14.trans (congrArg some (by kernel_rfl))
  f303 := Yba.func15.trans (congrArg some (by kernel_rfl))
  f304 := Yba.func16.trans (congrArg some (by kernel_rfl))
  f305 := Yba.func17.trans (congrArg some (by kernel_rfl))
  f306 := Yba.func18.trans (congrArg some (by kernel_rfl))
  f307 := Yba.func19.trans (congrArg some (by kernel_rfl))
  f308 := Yba.func20.trans (congrArg some (by kernel_rfl))
  f309 := Yba.func21.trans (congrArg some (by kernel_rfl))
  f310 := Yba.func22.trans (congrArg some (by kernel_rfl))
  f329 := Yba.func26.trans (congrArg some (by kernel_rfl))
  f330 := Yba.func27.trans (congrArg some (by kernel_rfl))
  f333 := Yba.func25.trans (congrArg some (by kernel_rfl))
  f334 := Yba.func28.trans (congrArg some (by kernel_rfl))
  f335 := Yba.func29.trans (congrArg some (by kernel_rfl))
  f336 := Yba.func30.trans (congrArg some (by kernel_rfl))
  f344 := Yba.func31.trans (congrArg some (by kernel_rfl))
  t0 := Yba.underlying0
  a0 := Yba.isAgg0
  z0 := Yba.sizeOf0
  v0 := Yba.zeroValue0
  t3 := Yba.underlying3
  a3 := Yba.isAgg3
  z3 := Yba.sizeOf3
  v3 := Yba.zeroValue3
  t4 := Yba.underlying4
  a4 := Yba.isAgg4
  z4 := Yba.sizeOf4
  v4 := Yba.zeroValue4
  t5 := Yba.underlying5
  a5 := Yba.isAgg5
  z5 := Yba.sizeOf5
  v5 := Yba.zeroValue5
  t9 := Yba.underlying9
  a9 := Yba.isAgg9
  z9 := Yba.sizeOf9
  v9 := Yba.zeroValue9
  t31 := Yba.underlying26
  a31 := Yba.isAgg26
  z31 := Yba.sizeOf26
  v31 := Yba.zeroValue26
  t46 := Yba.underlying45
  a46 := Yba.isAgg45
  z46 := Yba.sizeOf45
  v46 := Yba.zeroValue45
  t51 := Yba.underlying56
  a51 := Yba.isAgg56
  z51 := Yba.sizeOf56
  v51 := Yba.zeroValue56
  t53 := Yba.underlying58
  a53 := Yba.isAgg58
  z53 := Yba.sizeOf58
  v53 := Yba.zeroValue58
  t131 := Yba.underlying38
  a131 := Yba.isAgg38
  z131 := Yba.sizeOf38
  v131 := Yba.zeroValue38
  t182 := Yba.underlying48
  a182 := Yba.isAgg48
  z182 := Yba.sizeOf48
  v182 := Yba.zeroValue48
  t183 := Yba.underlying49
  a183 := Yba.isAgg49
  z183 := Yba.sizeOf49
  v183 := Yba.zeroValue49
  t218 := Yba.underlying59
  a218 := Yba.isAgg59
  z218 := Yba.sizeOf59
  v218 := Yba.zeroValue59
  t222 := Yba.underlying63
  a222 := Yba.isAgg63
  z222 := Yba.sizeOf63
  v222 := Yba.zeroValue63
  t228 := Yba.underlying66
  a228 := Yba.isAgg66
  z228 := Yba.sizeOf66
  v228 := Yba.zeroValue66
  t229 := Yba.underlying67
  a229 := Yba.isAgg67
  z229 := Yba.sizeOf67
  v229 := Yba.zeroValue67 }
open Go.Sort Go.RowKit in
theorem Yba.slices_Sort_string (blk off cap : Nat) (ss : List (List UInt8)) (w : World) (hH : Holds encStr w blk off ss.toArray) (hblk : blk < w.heap.size) (hsz : ss.length < 4611686018427387904) :
    Calls Yba.prog 8 #[.slice (some ⟨blk, off, none⟩) ss.length cap] w fun e w' =>
      e = .returned (.tuple #[]) ∧ ∃ n os, w' = grow (putRow encStr (Sort.ahead w n) blk off (ss.mergeSort fun x y => decide (x ≤ y)).toArray) os := Any.slices_Sort_string Yba.lays190 blk off cap ss w hH hblk hsz
open Go.RowKit Go.Sort in
/-- .. and plain. (LAID: no walk: one application.) -/
theorem Yba.slices_Sort_string_none (p : Option Addr) (cap : Nat) (w : World) :
    Calls Yba.prog 8 #[.slice p 0 cap] w fun e w' => e = .returned (.tuple #[]) ∧ w' = w := Any.slices_Sort_string_none Yba.lays190 p cap w
end Go.Proofs
