/-
  DERIVED: THE SHELF's CONTRACTS AT THIS DUMP, IN PLAIN WORDS (tools/lay-plain.mjs out of 'TryzShelf.lean', which tools/lay-shelf.mjs wrote): THE SAME DECLARATIONS UNDER THE SAME NAMES: 'import', 'namespace', 'open', 'def', 'theorem' AND NOTHING ELSE: no command of the shelf's: FOR A HAND-IN. Each laying: the table of numbers ('.._ren') and one theorem, a field a fact of the dump's own or the kernel's comparison; each contract: ONE APPLICATION.
-/
import Derived.Shelf.Sort.Plain
import Derived.Shelf.Strings.Prefix
import Derived.Ground.Names2Prog
import Derived.Shelf.Slices.Clone
import Derived.Shelf.Slices.In.SortNone
import Derived.Test.YtigalkobmfbdaaaGreatDoorProg
namespace Go.Proofs
open Go.Shelf
def Tryz.lays190_ren : Go.Shelf.Ren := ⟨fun | 190 => 65 | 125 => 85 | 258 => 84 | 128 => 106 | 129 => 107 | 302 => 97 | 303 => 98 | 304 => 99 | 305 => 100 | 306 => 101 | 307 => 102 | 308 => 103 | 309 => 104 | 310 => 105 | 333 => 131 | 329 => 132 | 330 => 133 | 334 => 134 | 335 => 135 | 336 => 136 | 344 => 150 | n => n, fun | 31 => 31 | 9 => 9 | 3 => 3 | 46 => 150 | 0 => 0 | 51 => 173 | 53 => 175 | 4 => 4 | 183 => 167 | 182 => 166 | 131 => 162 | 5 => 5 | 218 => 206 | 222 => 73 | 228 => 217 | 229 => 26 | n => n, fun | n => n⟩
theorem Tryz.lays190 : Go.Proofs.Lays.n190 Tryz.prog Tryz.lays190_ren := {
  mixed := by kernel_rfl
  f125 := Tryz.func85.trans (congrArg some (by kernel_rfl))
  f128 := Tryz.func106.trans (congrArg some (by kernel_rfl))
  f129 := Tryz.func107.trans (congrArg some (by kernel_rfl))
  f190 := Tryz.func65.trans (congrArg some (by kernel_rfl))
  f258 := Tryz.func84.trans (congrArg some (by kernel_rfl))
  f302 := Tryz.func97.trans (congrArg some (by kernel_rfl))
  f303 := Tryz.func98.trans (congrArg some (by kernel_rfl))
  f304 := Tryz.func99.trans (congrArg some (by kernel_rfl))
  f305 := Tryz.func100.trans (congrArg some (by kernel_rfl))
  f306 := Tryz.func101.trans (congrArg some (by kernel_rfl))
  f307 := Tryz.func102.trans (congrArg some (by kernel_rfl))
  f308 := Tryz.func103.trans (congrArg some (by kernel_rfl))
  f309 := Tryz.func104.trans (congrArg some (by kernel_rfl))
  f310 := Tryz.func105.trans (congrArg some (by kernel_rfl))
  f329 := Tryz.func132.trans (congrArg some (by kernel_rfl))
  f330 := Tryz.func133.trans (congrArg some (by kernel_rfl))
  f333 := Tryz.func131.trans (congrArg some (by kernel_rfl))
  f334 := Tryz.func134.trans (congrArg some (by kernel_rfl))
  f335 := Tryz.func135.trans (congrArg some (by kernel_rfl))
  f336 := Tryz.func136.trans (congrArg some (by kernel_rfl))
  f344 := Tryz.func150.trans (congrArg some (by kernel_rfl))
  t0 := Tryz.underlying0
  a0 := Tryz.isAgg0
  z0 := Tryz.sizeOf0
  v0 := Tryz.zeroValue0
  t3 := Tryz.underlying3
  a3 := Tryz.isAgg3
  z3 := Tryz.sizeOf3
  v3 := Tryz.zeroValue3
  t4 := Tryz.underlying4
  a4 := Tryz.isAgg4
  z4 := Tryz.sizeOf4
  v4 := Tryz.zeroValue4
  t5 := Tryz.underlying5
  a5 := Tryz.isAgg5
  z5 := Tryz.sizeOf5
  v5 := Tryz.zeroValue5
  t9 := Tryz.underlying9
  a9 := Tryz.isAgg9
  z9 := Tryz.sizeOf9
  v9 := Tryz.zeroValue9
  t31 := Tryz.underlying31
  a31 := Tryz.isAgg31
  z31 := Tryz.sizeOf31
  v31 := Tryz.zeroValue31
  t46 := Tryz.underlying150
  a46 := Tryz.isAgg150
  z46 := Tryz.sizeOf150
  v46 := Tryz.zeroValue150
  t51 := Tryz.underlying173
  a51 := Tryz.isAgg173
  z51 := Tryz.sizeOf173
  v51 := Tryz.zeroValue173
  t53 := Tryz.underlying175
  a53 := Tryz.isAgg175
  z53 := Tryz.sizeOf175
  v53 := Tryz.zeroValue175
  t131 := Tryz.underlying162
  a131 := Tryz.isAgg162
  z131 := Tryz.sizeOf162
  v131 := Tryz.zeroValue162
  t182 := Tryz.underlying166
  a182 := Tryz.isAgg166
  z182 := Tryz.sizeOf166
  v182 := Tryz.zeroValue166
  t183 := Tryz.underlying167
  a183 := Tryz.isAgg167
  z183 := Tryz.sizeOf167
  v183 := Tryz.zeroValue167
  t218 := Tryz.underlying206
  a218 := Tryz.isAgg206
  z218 := Tryz.sizeOf206
  v218 := Tryz.zeroValue206
  t222 := Tryz.underlying73
  a222 := Tryz.isAgg73
  z222 := Tryz.sizeOf73
  v222 := Tryz.zeroValue73
  t228 := Tryz.underlying217
  a228 := Tryz.isAgg217
  z228 := Tryz.sizeOf217
  v228 := Tryz.zeroValue217
  t229 := Tryz.underlying26
  a229 := Tryz.isAgg26
  z229 := Tryz.sizeOf26
  v229 := Tryz.zeroValue26 }
open Go.Sort Go.RowKit in
theorem Tryz.slices_Sort_string (blk off cap : Nat) (ss : List (List UInt8)) (w : World) (hH : Holds encStr w blk off ss.toArray) (hblk : blk < w.heap.size) (hsz : ss.length < 4611686018427387904) :
    Calls Tryz.prog 65 #[.slice (some ⟨blk, off, none⟩) ss.length cap] w fun e w' =>
      e = .returned (.tuple #[]) ∧ ∃ n os, w' = grow (putRow encStr (Sort.ahead w n) blk off (ss.mergeSort fun x y => decide (x ≤ y)).toArray) os := Any.slices_Sort_string Tryz.lays190 blk off cap ss w hH hblk hsz
open Go.RowKit Go.Lib in
open Go.RowKit Go.Lib in
open Go.RowKit Go.Lib in
open Go.RowKit Go.Lib in
open Go.RowKit Go.Lib in
open Go.RowKit Go.Lib in
open Go.RowKit Go.Sort in
/-- .. and plain. (LAID: no walk: one application.) -/
theorem Tryz.slices_Sort_string_none (p : Option Addr) (cap : Nat) (w : World) :
    Calls Tryz.prog 65 #[.slice p 0 cap] w fun e w' => e = .returned (.tuple #[]) ∧ w' = w := Any.slices_Sort_string_none Tryz.lays190 p cap w
end Go.Proofs
