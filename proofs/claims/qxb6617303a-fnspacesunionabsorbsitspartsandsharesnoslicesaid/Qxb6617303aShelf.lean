/-
  DERIVED: THE SHELF's CONTRACTS AT THIS DUMP, IN PLAIN WORDS (tools/lay-plain.mjs out of 'TryShelf.lean', which tools/lay-shelf.mjs wrote): THE SAME DECLARATIONS UNDER THE SAME NAMES: 'import', 'namespace', 'open', 'def', 'theorem' AND NOTHING ELSE: no command of the shelf's: FOR A HAND-IN. Each laying: the table of numbers ('.._ren') and one theorem, a field a fact of the dump's own or the kernel's comparison; each contract: ONE APPLICATION.
-/
import Derived.Shelf.Sort.Plain
import Derived.Shelf.Slices.CompactS
import Derived.Shelf.Slices.Cells
import Derived.Shelf.Slices.In.SortNone
import Derived.Test.Qxb6617303aProg
namespace Go.Proofs
open Go.Shelf
def Try.lays190_ren : Go.Shelf.Ren := ⟨fun | 190 => 15 | 125 => 20 | 258 => 19 | 128 => 30 | 129 => 31 | 302 => 21 | 303 => 22 | 304 => 23 | 305 => 24 | 306 => 25 | 307 => 26 | 308 => 27 | 309 => 28 | 310 => 29 | 333 => 32 | 329 => 33 | 330 => 34 | 334 => 35 | 335 => 36 | 336 => 37 | 344 => 38 | n => n, fun | 31 => 22 | 9 => 9 | 3 => 3 | 46 => 38 | 0 => 0 | 51 => 49 | 53 => 51 | 4 => 4 | 183 => 41 | 182 => 40 | 131 => 46 | 5 => 5 | 218 => 52 | 222 => 56 | 228 => 59 | 229 => 60 | n => n, fun | n => n⟩
theorem Try.lays190 : Go.Proofs.Lays.n190 Try.prog Try.lays190_ren := {
  mixed := by kernel_rfl
  f125 := Try.func20.trans (congrArg some (by kernel_rfl))
  f128 := Try.func30.trans (congrArg some (by kernel_rfl))
  f129 := Try.func31.trans (congrArg some (by kernel_rfl))
  f190 := Try.func15.trans (congrArg some (by kernel_rfl))
  f258 := Try.func19.trans (congrArg some (by kernel_rfl))
  f302 := Try.func21.trans (congrArg some (by kernel_rfl))
  f303 := Try.func22.trans (congrArg some (by kernel_rfl))
  f304 := Try.func23.trans (congrArg some (by kernel_rfl))
  f305 := Try.func24.trans (congrArg some (by kernel_rfl))
  f306 := Try.func25.trans (congrArg some (by kernel_rfl))
  f307 := Try.func26.trans (congrArg some (by kernel_rfl))
  f308 := Try.func27.trans (congrArg some (by kernel_rfl))
  f309 := Try.func28.trans (congrArg some (by kernel_rfl))
  f310 := Try.func29.trans (congrArg some (by kernel_rfl))
  f329 := Try.func33.trans (congrArg some (by kernel_rfl))
  f330 := Try.func34.trans (congrArg some (by kernel_rfl))
  f333 := Try.func32.trans (congrArg some (by kernel_rfl))
  f334 := Try.func35.trans (congrArg some (by kernel_rfl))
  f335 := Try.func36.trans (congrArg some (by kernel_rfl))
  f336 := Try.func37.trans (congrArg some (by kernel_rfl))
  f344 := Try.func38.trans (congrArg some (by kernel_rfl))
  t0 := Try.underlying0
  a0 := Try.isAgg0
  z0 := Try.sizeOf0
  v0 := Try.zeroValue0
  t3 := Try.underlying3
  a3 := Try.isAgg3
  z3 := Try.sizeOf3
  v3 := Try.zeroValue3
  t4 := Try.underlying4
  a4 := Try.isAgg4
  z4 := Try.sizeOf4
  v4 := Try.zeroValue4
  t5 := Try.underlying5
  a5 := Try.isAgg5
  z5 := Try.sizeOf5
  v5 := Try.zeroValue5
  t9 := Try.underlying9
  a9 := Try.isAgg9
  z9 := Try.sizeOf9
  v9 := Try.zeroValue9
  t31 := Try.underlying22
  a31 := Try.isAgg22
  z31 := Try.sizeOf22
  v31 := Try.zeroValue22
  t46 := Try.underlying38
  a46 := Try.isAgg38
  z46 := Try.sizeOf38
  v46 := Try.zeroValue38
  t51 := Try.underlying49
  a51 := Try.isAgg49
  z51 := Try.sizeOf49
  v51 := Try.zeroValue49
  t53 := Try.underlying51
  a53 := Try.isAgg51
  z53 := Try.sizeOf51
  v53 := Try.zeroValue51
  t131 := Try.underlying46
  a131 := Try.isAgg46
  z131 := Try.sizeOf46
  v131 := Try.zeroValue46
  t182 := Try.underlying40
  a182 := Try.isAgg40
  z182 := Try.sizeOf40
  v182 := Try.zeroValue40
  t183 := Try.underlying41
  a183 := Try.isAgg41
  z183 := Try.sizeOf41
  v183 := Try.zeroValue41
  t218 := Try.underlying52
  a218 := Try.isAgg52
  z218 := Try.sizeOf52
  v218 := Try.zeroValue52
  t222 := Try.underlying56
  a222 := Try.isAgg56
  z222 := Try.sizeOf56
  v222 := Try.zeroValue56
  t228 := Try.underlying59
  a228 := Try.isAgg59
  z228 := Try.sizeOf59
  v228 := Try.zeroValue59
  t229 := Try.underlying60
  a229 := Try.isAgg60
  z229 := Try.sizeOf60
  v229 := Try.zeroValue60 }
open Go.Sort Go.RowKit in
theorem Try.slices_Sort_string (blk off cap : Nat) (ss : List (List UInt8)) (w : World) (hH : Holds encStr w blk off ss.toArray) (hblk : blk < w.heap.size) (hsz : ss.length < 4611686018427387904) :
    Calls Try.prog 15 #[.slice (some ⟨blk, off, none⟩) ss.length cap] w fun e w' =>
      e = .returned (.tuple #[]) ∧ ∃ n os, w' = grow (putRow encStr (Sort.ahead w n) blk off (ss.mergeSort fun x y => decide (x ≤ y)).toArray) os := Any.slices_Sort_string Try.lays190 blk off cap ss w hH hblk hsz
def Try.lays194_ren : Go.Shelf.Ren := ⟨fun | 194 => 16 | n => n, fun | 31 => 22 | 9 => 9 | 3 => 3 | 4 => 4 | 0 => 0 | n => n, fun | n => n⟩
theorem Try.lays194 : Go.Proofs.Lays.n194 Try.prog Try.lays194_ren := {
  mixed := by kernel_rfl
  f194 := Try.func16.trans (congrArg some (by kernel_rfl))
  t0 := Try.underlying0
  a0 := Try.isAgg0
  z0 := Try.sizeOf0
  v0 := Try.zeroValue0
  t3 := Try.underlying3
  a3 := Try.isAgg3
  z3 := Try.sizeOf3
  v3 := Try.zeroValue3
  t4 := Try.underlying4
  a4 := Try.isAgg4
  z4 := Try.sizeOf4
  v4 := Try.zeroValue4
  t9 := Try.underlying9
  a9 := Try.isAgg9
  z9 := Try.sizeOf9
  v9 := Try.zeroValue9
  t31 := Try.underlying22
  a31 := Try.isAgg22
  z31 := Try.sizeOf22
  v31 := Try.zeroValue22 }
open Go.RowKit Go.Lib Go.Sort in
/-- slices.Compact at []string, over an array: the library's two loops are walked. (LAID: no walk: one application.) -/
theorem Try.slices_Compact_string_arr (blk off cap : Nat) (d : Array (List UInt8)) (w : World) (hH : Holds encStr w blk off d) (hsz : d.size ≤ 9223372036854775807) (hcap : d.size ≤ cap) :
    Calls Try.prog 16 #[.slice (some ⟨blk, off, none⟩) d.size cap] w fun e w' => e = .returned (.slice (some ⟨blk, off, none⟩) (compactUpTo d d.size).length cap) ∧ ∃ q, w' = putRow encStr (Sort.ahead w q) blk off (compactUpTo d d.size ++ List.replicate (d.size - (compactUpTo d d.size).length) []).toArray := Any.slices_Compact_string_arr Try.lays194 blk off cap d w hH hsz hcap
open Go.RowKit Go.Lib Go.Sort in
/-- slices.Compact at []string: "Compact replaces consecutive runs of equal elements with a single copy. This is like the uniq command found on Unix. Compact modifies the contents of the slice s and returns the modified slice, which may have a smaller length. Compact zeroes the elements between the new length and the original length. The result preserves the nilness of s.": IT RETURNS THE SLICE CUT TO 'Lib.compact zs'; ITS CELLS HOLD 'Lib.compact zs', THEN ZERO VALUES up to the old length; all else is as it was, but for the count of draws. IN THE WORDS OF slices.Sort's CONTRACT ('Holds', 'putRow'): so the everyday 'slices.Sort(xs); xs = slices.Compact(xs)' goes from the one contract to the other. It asks 'zs.length ≤ cap' (every slice's: the reslicing 's[:k]' looks at it). Length 0, nil: '.._empty'. (LAID: no walk: one application.) -/
theorem Try.slices_Compact_string (blk off cap : Nat) (zs : List (List UInt8)) (w : World) (hH : Holds encStr w blk off zs.toArray) (hsz : zs.length ≤ 9223372036854775807) (hcap : zs.length ≤ cap) :
    Calls Try.prog 16 #[.slice (some ⟨blk, off, none⟩) zs.length cap] w fun e w' => e = .returned (.slice (some ⟨blk, off, none⟩) (Lib.compact zs).length cap) ∧ ∃ q, w' = putRow encStr (Sort.ahead w q) blk off (Lib.compact zs ++ List.replicate (zs.length - (Lib.compact zs).length) []).toArray := Any.slices_Compact_string Try.lays194 blk off cap zs w hH hsz hcap
open Go.RowKit Go.Lib Go.Sort in
/-- The same at a slice of length 0, a nil one too: it comes back as it is. (LAID: no walk: one application.) -/
theorem Try.slices_Compact_string_empty (a : Option Addr) (cap : Nat) (w : World) :
    Calls Try.prog 16 #[.slice a 0 cap] w fun e w' => e = .returned (.slice a 0 cap) ∧ w' = w := Any.slices_Compact_string_empty Try.lays194 a cap w
open Go.RowKit Go.Lib Go.Sort in
/-- slices.Compact at []string, of an argument. (LAID: no walk: one application.) -/
theorem Try.slices_Compact_string_cells (b off n c : Nat) (Sx : Nat → ByteArray) (w : World) (hbig : n ≤ 9223372036854775807) (hcap : n ≤ c) (hc : ∀ i, i < n → w.cell? ⟨b, off + i, none⟩ = some (.string (Sx i))) (hf : ∀ j, j < n → w.frozen? ⟨b, off + j, none⟩ = false) :
    Calls Try.prog 16 #[.slice (some ⟨b, off, none⟩) n c] w fun e w' => e = .returned (.slice (some ⟨b, off, none⟩) (Lib.compact (Lib.strsOf Sx n)).length c) ∧ ∃ q, w' = (w.drewN q).setCells b off ((Lib.compact (Lib.strsOf Sx n) ++ List.replicate (n - (Lib.compact (Lib.strsOf Sx n)).length) []).map encStr) := Any.slices_Compact_string_cells Try.lays194 b off n c Sx w hbig hcap hc hf
open Go.RowKit Go.Sort in
/-- .. and plain. (LAID: no walk: one application.) -/
theorem Try.slices_Sort_string_none (p : Option Addr) (cap : Nat) (w : World) :
    Calls Try.prog 15 #[.slice p 0 cap] w fun e w' => e = .returned (.tuple #[]) ∧ w' = w := Any.slices_Sort_string_none Try.lays190 p cap w
end Go.Proofs
