/-
  DERIVED: THE SHELF's CONTRACTS AT THIS DUMP, IN PLAIN WORDS (tools/lay-plain.mjs out of 'YbulkbxnsShelf.lean', which tools/lay-shelf.mjs wrote): THE SAME DECLARATIONS UNDER THE SAME NAMES: 'import', 'namespace', 'open', 'def', 'theorem' AND NOTHING ELSE: no command of the shelf's: FOR A HAND-IN. Each laying: the table of numbers ('.._ren') and one theorem, a field a fact of the dump's own or the kernel's comparison; each contract: ONE APPLICATION.
-/
import Derived.Shelf.Sort.Plain
import Derived.Shelf.Slices.CompactS
import Derived.Shelf.Slices.In.SortNone
import Derived.Test.YbulkbxnsProg
namespace Go.Proofs
open Go.Shelf
def Yba.lays190_ren : Go.Shelf.Ren := ⟨fun | 190 => 11 | 125 => 22 | 258 => 21 | 128 => 37 | 129 => 38 | 302 => 28 | 303 => 29 | 304 => 30 | 305 => 31 | 306 => 32 | 307 => 33 | 308 => 34 | 309 => 35 | 310 => 36 | 333 => 39 | 329 => 40 | 330 => 41 | 334 => 42 | 335 => 43 | 336 => 44 | 344 => 45 | n => n, fun | 31 => 22 | 9 => 9 | 3 => 3 | 46 => 56 | 0 => 0 | 51 => 71 | 53 => 44 | 4 => 4 | 183 => 63 | 182 => 62 | 131 => 68 | 5 => 5 | 218 => 73 | 222 => 77 | 228 => 80 | 229 => 81 | n => n, fun | n => n⟩
theorem Yba.lays190 : Go.Proofs.Lays.n190 Yba.prog Yba.lays190_ren := {
  mixed := by kernel_rfl
  f125 := Yba.func22.trans (congrArg some (by kernel_rfl))
  f128 := Yba.func37.trans (congrArg some (by kernel_rfl))
  f129 := Yba.func38.trans (congrArg some (by kernel_rfl))
  f190 := Yba.func11.trans (congrArg some (by kernel_rfl))
  f258 := Yba.func21.trans (congrArg some (by kernel_rfl))
  f302 := Yba.func28.trans (congrArg some (by kernel_rfl))
  f303 := Yba.func29.trans (congrArg some (by kernel_rfl))
  f304 := Yba.func30.trans (congrArg some (by kernel_rfl))
  f305 := Yba.func31.trans (congrArg some (by kernel_rfl))
  f306 := Yba.func32.trans (congrArg some (by kernel_rfl))
  f307 := Yba.func33.trans (congrArg some (by kernel_rfl))
  f308 := Yba.func34.trans (congrArg some (by kernel_rfl))
  f309 := Yba.func35.trans (congrArg some (by kernel_rfl))
  f310 := Yba.func36.trans (congrArg some (by kernel_rfl))
  f329 := Yba.func40.trans (congrArg some (by kernel_rfl))
  f330 := Yba.func41.trans (congrArg some (by kernel_rfl))
  f333 := Yba.func39.trans (congrArg some (by kernel_rfl))
  f334 := Yba.func42.trans (congrArg some (by kernel_rfl))
  f335 := Yba.func43.trans (congrArg some (by kernel_rfl))
  f336 := Yba.func44.trans (congrArg some (by kernel_rfl))
  f344 := Yba.func45.trans (congrArg some (by kernel_rfl))
  t0 := Yba.underlying0
  a0 := Yba.isAgg0
  z0 := Yba.sizeOf0
  v0 := Yba.zeroValue0
  t3 := Yba.underlying3
  a3 := Yba.isAgg3
  z3 := Yba.sizeOf3
  v3 := Yba.zeroValue3
  t4 := Yba.underlying4
  a4 := Yba.isAgg4
  z4 := Yba.sizeOf4
  v4 := Yba.zeroValue4
  t5 := Yba.underlying5
  a5 := Yba.isAgg5
  z5 := Yba.sizeOf5
  v5 := Yba.zeroValue5
  t9 := Yba.underlying9
  a9 := Yba.isAgg9
  z9 := Yba.sizeOf9
  v9 := Yba.zeroValue9
  t31 := Yba.underlying22
  a31 := Yba.isAgg22
  z31 := Yba.sizeOf22
  v31 := Yba.zeroValue22
  t46 := Yba.underlying56
  a46 := Yba.isAgg56
  z46 := Yba.sizeOf56
  v46 := Yba.zeroValue56
  t51 := Yba.underlying71
  a51 := Yba.isAgg71
  z51 := Yba.sizeOf71
  v51 := Yba.zeroValue71
  t53 := Yba.underlying44
  a53 := Yba.isAgg44
  z53 := Yba.sizeOf44
  v53 := Yba.zeroValue44
  t131 := Yba.underlying68
  a131 := Yba.isAgg68
  z131 := Yba.sizeOf68
  v131 := Yba.zeroValue68
  t182 := Yba.underlying62
  a182 := Yba.isAgg62
  z182 := Yba.sizeOf62
  v182 := Yba.zeroValue62
  t183 := Yba.underlying63
  a183 := Yba.isAgg63
  z183 := Yba.sizeOf63
  v183 := Yba.zeroValue63
  t218 := Yba.underlying73
  a218 := Yba.isAgg73
  z218 := Yba.sizeOf73
  v218 := Yba.zeroValue73
  t222 := Yba.underlying77
  a222 := Yba.isAgg77
  z222 := Yba.sizeOf77
  v222 := Yba.zeroValue77
  t228 := Yba.underlying80
  a228 := Yba.isAgg80
  z228 := Yba.sizeOf80
  v228 := Yba.zeroValue80
  t229 := Yba.underlying81
  a229 := Yba.isAgg81
  z229 := Yba.sizeOf81
  v229 := Yba.zeroValue81 }
open Go.Sort Go.RowKit in
theorem Yba.slices_Sort_string (blk off cap : Nat) (ss : List (List UInt8)) (w : World) (hH : Holds encStr w blk off ss.toArray) (hblk : blk < w.heap.size) (hsz : ss.length < 4611686018427387904) :
    Calls Yba.prog 11 #[.slice (some ⟨blk, off, none⟩) ss.length cap] w fun e w' =>
      e = .returned (.tuple #[]) ∧ ∃ n os, w' = grow (putRow encStr (Sort.ahead w n) blk off (ss.mergeSort fun x y => decide (x ≤ y)).toArray) os := Any.slices_Sort_string Yba.lays190 blk off cap ss w hH hblk hsz
def Yba.lays194_ren : Go.Shelf.Ren := ⟨fun | 194 => 12 | n => n, fun | 31 => 22 | 9 => 9 | 3 => 3 | 4 => 4 | 0 => 0 | n => n, fun | n => n⟩
theorem Yba.lays194 : Go.Proofs.Lays.n194 Yba.prog Yba.lays194_ren := {
  mixed := by kernel_rfl
  f194 := Yba.func12.trans (congrArg some (by kernel_rfl))
  t0 := Yba.underlying0
  a0 := Yba.isAgg0
  z0 := Yba.sizeOf0
  v0 := Yba.zeroValue0
  t3 := Yba.underlying3
  a3 := Yba.isAgg3
  z3 := Yba.sizeOf3
  v3 := Yba.zeroValue3
  t4 := Yba.underlying4
  a4 := Yba.isAgg4
  z4 := Yba.sizeOf4
  v4 := Yba.zeroValue4
  t9 := Yba.underlying9
  a9 := Yba.isAgg9
  z9 := Yba.sizeOf9
  v9 := Yba.zeroValue9
  t31 := Yba.underlying22
  a31 := Yba.isAgg22
  z31 := Yba.sizeOf22
  v31 := Yba.zeroValue22 }
open Go.RowKit Go.Lib Go.Sort in
/-- slices.Compact at []string, over an array: the library's two loops are walked. (LAID: no walk: one application.) -/
theorem Yba.slices_Compact_string_arr (blk off cap : Nat) (d : Array (List UInt8)) (w : World) (hH : Holds encStr w blk off d) (hsz : d.size ≤ 9223372036854775807) (hcap : d.size ≤ cap) :
    Calls Yba.prog 12 #[.slice (some ⟨blk, off, none⟩) d.size cap] w fun e w' => e = .returned (.slice (some ⟨blk, off, none⟩) (compactUpTo d d.size).length cap) ∧ ∃ q, w' = putRow encStr (Sort.ahead w q) blk off (compactUpTo d d.size ++ List.replicate (d.size - (compactUpTo d d.size).length) []).toArray := Any.slices_Compact_string_arr Yba.lays194 blk off cap d w hH hsz hcap
open Go.RowKit Go.Sort in
/-- .. and plain. (LAID: no walk: one application.) -/
theorem Yba.slices_Sort_string_none (p : Option Addr) (cap : Nat) (w : World) :
    Calls Yba.prog 11 #[.slice p 0 cap] w fun e w' => e = .returned (.tuple #[]) ∧ w' = w := Any.slices_Sort_string_none Yba.lays190 p cap w
end Go.Proofs
