/-
  DERIVED: THE SHELF's CONTRACTS AT THIS DUMP, IN PLAIN WORDS (tools/lay-plain.mjs out of 'TryShelf.lean', which tools/lay-shelf.mjs wrote): THE SAME DECLARATIONS UNDER THE SAME NAMES: 'import', 'namespace', 'open', 'def', 'theorem' AND NOTHING ELSE: no command of the shelf's: FOR A HAND-IN. Each laying: the table of numbers ('.._ren') and one theorem, a field a fact of the dump's own or the kernel's comparison; each contract: ONE APPLICATION.
-/
import Derived.Shelf.Sort.Plain
import Derived.Shelf.Slices.CompactS
import Derived.Shelf.Slices.In.SortNone
import Derived.Test.Qxb6628738aProg
namespace Go.Proofs
open Go.Shelf
def Try.lays190_ren : Go.Shelf.Ren := ⟨fun | 190 => 18 | 125 => 21 | 258 => 20 | 128 => 31 | 129 => 32 | 302 => 22 | 303 => 23 | 304 => 24 | 305 => 25 | 306 => 26 | 307 => 27 | 308 => 28 | 309 => 29 | 310 => 30 | 333 => 33 | 329 => 34 | 330 => 35 | 334 => 36 | 335 => 37 | 336 => 38 | 344 => 39 | n => n, fun | 31 => 30 | 9 => 9 | 3 => 3 | 46 => 57 | 0 => 0 | 51 => 68 | 53 => 70 | 4 => 4 | 183 => 60 | 182 => 59 | 131 => 65 | 5 => 5 | 218 => 71 | 222 => 75 | 228 => 77 | 229 => 78 | n => n, fun | n => n⟩
theorem Try.lays190 : Go.Proofs.Lays.n190 Try.prog Try.lays190_ren := {
  mixed := by kernel_rfl
  f125 := Try.func21.trans (congrArg some (by kernel_rfl))
  f128 := Try.func31.trans (congrArg some (by kernel_rfl))
  f129 := Try.func32.trans (congrArg some (by kernel_rfl))
  f190 := Try.func18.trans (congrArg some (by kernel_rfl))
  f258 := Try.func20.trans (congrArg some (by kernel_rfl))
  f302 := Try.func22.trans (congrArg some (by kernel_rfl))
  f303 := Try.func23.trans (congrArg some (by kernel_rfl))
  f304 := Try.func24.trans (congrArg some (by kernel_rfl))
  f305 := Try.func25.trans (congrArg some (by kernel_rfl))
  f306 := Try.func26.trans (congrArg some (by kernel_rfl))
  f307 := Try.func27.trans (congrArg some (by kernel_rfl))
  f308 := Try.func28.trans (congrArg some (by kernel_rfl))
  f309 := Try.func29.trans (congrArg some (by kernel_rfl))
  f310 := Try.func30.trans (congrArg some (by kernel_rfl))
  f329 := Try.func34.trans (congrArg some (by kernel_rfl))
  f330 := Try.func35.trans (congrArg some (by kernel_rfl))
  f333 := Try.func33.trans (congrArg some (by kernel_rfl))
  f334 := Try.func36.trans (congrArg some (by kernel_rfl))
  f335 := Try.func37.trans (congrArg some (by kernel_rfl))
  f336 := Try.func38.trans (congrArg some (by kernel_rfl))
  f344 := Try.func39.trans (congrArg some (by kernel_rfl))
  t0 := Try.underlying0
  a0 := Try.isAgg0
  z0 := Try.sizeOf0
  v0 := Try.zeroValue0
  t3 := Try.underlying3
  a3 := Try.isAgg3
  z3 := Try.sizeOf3
  v3 := Try.zeroValue3
  t4 := Try.underlying4
  a4 := Try.isAgg4
  z4 := Try.sizeOf4
  v4 := Try.zeroValue4
  t5 := Try.underlying5
  a5 := Try.isAgg5
  z5 := Try.sizeOf5
  v5 := Try.zeroValue5
  t9 := Try.underlying9
  a9 := Try.isAgg9
  z9 := Try.sizeOf9
  v9 := Try.zeroValue9
  t31 := Try.underlying30
  a31 := Try.isAgg30
  z31 := Try.sizeOf30
  v31 := Try.zeroValue30
  t46 := Try.underlying57
  a46 := Try.isAgg57
  z46 := Try.sizeOf57
  v46 := Try.zeroValue57
  t51 := Try.underlying68
  a51 := Try.isAgg68
  z51 := Try.sizeOf68
  v51 := Try.zeroValue68
  t53 := Try.underlying70
  a53 := Try.isAgg70
  z53 := Try.sizeOf70
  v53 := Try.zeroValue70
  t131 := Try.underlying65
  a131 := Try.isAgg65
  z131 := Try.sizeOf65
  v131 := Try.zeroValue65
  t182 := Try.underlying59
  a182 := Try.isAgg59
  z182 := Try.sizeOf59
  v182 := Try.zeroValue59
  t183 := Try.underlying60
  a183 := Try.isAgg60
  z183 := Try.sizeOf60
  v183 := Try.zeroValue60
  t218 := Try.underlying71
  a218 := Try.isAgg71
  z218 := Try.sizeOf71
  v218 := Try.zeroValue71
  t222 := Try.underlying75
  a222 := Try.isAgg75
  z222 := Try.sizeOf75
  v222 := Try.zeroValue75
  t228 := Try.underlying77
  a228 := Try.isAgg77
  z228 := Try.sizeOf77
  v228 := Try.zeroValue77
  t229 := Try.underlying78
  a229 := Try.isAgg78
  z229 := Try.sizeOf78
  v229 := Try.zeroValue78 }
open Go.Sort Go.RowKit in
theorem Try.slices_Sort_string (blk off cap : Nat) (ss : List (List UInt8)) (w : World) (hH : Holds encStr w blk off ss.toArray) (hblk : blk < w.heap.size) (hsz : ss.length < 4611686018427387904) :
    Calls Try.prog 18 #[.slice (some ⟨blk, off, none⟩) ss.length cap] w fun e w' =>
      e = .returned (.tuple #[]) ∧ ∃ n os, w' = grow (putRow encStr (Sort.ahead w n) blk off (ss.mergeSort fun x y => decide (x ≤ y)).toArray) os := Any.slices_Sort_string Try.lays190 blk off cap ss w hH hblk hsz
def Try.lays194_ren : Go.Shelf.Ren := ⟨fun | 194 => 19 | n => n, fun | 31 => 30 | 9 => 9 | 3 => 3 | 4 => 4 | 0 => 0 | n => n, fun | n => n⟩
theorem Try.lays194 : Go.Proofs.Lays.n194 Try.prog Try.lays194_ren := {
  mixed := by kernel_rfl
  f194 := Try.func19.trans (congrArg some (by kernel_rfl))
  t0 := Try.underlying0
  a0 := Try.isAgg0
  z0 := Try.sizeOf0
  v0 := Try.zeroValue0
  t3 := Try.underlying3
  a3 := Try.isAgg3
  z3 := Try.sizeOf3
  v3 := Try.zeroValue3
  t4 := Try.underlying4
  a4 := Try.isAgg4
  z4 := Try.sizeOf4
  v4 := Try.zeroValue4
  t9 := Try.underlying9
  a9 := Try.isAgg9
  z9 := Try.sizeOf9
  v9 := Try.zeroValue9
  t31 := Try.underlying30
  a31 := Try.isAgg30
  z31 := Try.sizeOf30
  v31 := Try.zeroValue30 }
open Go.RowKit Go.Lib Go.Sort in
/-- slices.Compact at []string, over an array: the library's two loops are walked. (LAID: no walk: one application.) -/
theorem Try.slices_Compact_string_arr (blk off cap : Nat) (d : Array (List UInt8)) (w : World) (hH : Holds encStr w blk off d) (hsz : d.size ≤ 9223372036854775807) (hcap : d.size ≤ cap) :
    Calls Try.prog 19 #[.slice (some ⟨blk, off, none⟩) d.size cap] w fun e w' => e = .returned (.slice (some ⟨blk, off, none⟩) (compactUpTo d d.size).length cap) ∧ ∃ q, w' = putRow encStr (Sort.ahead w q) blk off (compactUpTo d d.size ++ List.replicate (d.size - (compactUpTo d d.size).length) []).toArray := Any.slices_Compact_string_arr Try.lays194 blk off cap d w hH hsz hcap
open Go.RowKit Go.Lib Go.Sort in
/-- slices.Compact at []string: "Compact replaces consecutive runs of equal elements with a single copy. This is like the uniq command found on Unix. Compact modifies the contents of the slice s and returns the modified slice, which may have a smaller length. Compact zeroes the elements between the new length and the original length. The result preserves the nilness of s.": IT RETURNS THE SLICE CUT TO 'Lib.compact zs'; ITS CELLS HOLD 'Lib.compact zs', THEN ZERO VALUES up to the old length; all else is as it was, but for the count of draws. IN THE WORDS OF slices.Sort's CONTRACT ('Holds', 'putRow'): so the everyday 'slices.Sort(xs); xs = slices.Compact(xs)' goes from the one contract to the other. It asks 'zs.length ≤ cap' (every slice's: the reslicing 's[:k]' looks at it). Length 0, nil: '.._empty'. (LAID: no walk: one application.) -/
theorem Try.slices_Compact_string (blk off cap : Nat) (zs : List (List UInt8)) (w : World) (hH : Holds encStr w blk off zs.toArray) (hsz : zs.length ≤ 9223372036854775807) (hcap : zs.length ≤ cap) :
    Calls Try.prog 19 #[.slice (some ⟨blk, off, none⟩) zs.length cap] w fun e w' => e = .returned (.slice (some ⟨blk, off, none⟩) (Lib.compact zs).length cap) ∧ ∃ q, w' = putRow encStr (Sort.ahead w q) blk off (Lib.compact zs ++ List.replicate (zs.length - (Lib.compact zs).length) []).toArray := Any.slices_Compact_string Try.lays194 blk off cap zs w hH hsz hcap
open Go.RowKit Go.Lib Go.Sort in
/-- The same at a slice of length 0, a nil one too: it comes back as it is. (LAID: no walk: one application.) -/
theorem Try.slices_Compact_string_empty (a : Option Addr) (cap : Nat) (w : World) :
    Calls Try.prog 19 #[.slice a 0 cap] w fun e w' => e = .returned (.slice a 0 cap) ∧ w' = w := Any.slices_Compact_string_empty Try.lays194 a cap w
open Go.RowKit Go.Sort in
/-- .. and plain. (LAID: no walk: one application.) -/
theorem Try.slices_Sort_string_none (p : Option Addr) (cap : Nat) (w : World) :
    Calls Try.prog 18 #[.slice p 0 cap] w fun e w' => e = .returned (.tuple #[]) ∧ w' = w := Any.slices_Sort_string_none Try.lays190 p cap w
end Go.Proofs
