/-
  DERIVED: THE SHELF's CONTRACTS AT THIS DUMP, IN PLAIN WORDS (tools/lay-plain.mjs out of 'YbafShelf.lean', which tools/lay-shelf.mjs wrote): THE SAME DECLARATIONS UNDER THE SAME NAMES: 'import', 'namespace', 'open', 'def', 'theorem' AND NOTHING ELSE: no command of the shelf's: FOR A HAND-IN. Each laying: the table of numbers ('.._ren') and one theorem, a field a fact of the dump's own or the kernel's comparison; each contract: ONE APPLICATION.
-/
import Derived.Shelf.Sort.Plain
import Derived.Shelf.Slices.CompactI
import Derived.Shelf.SlSorted.Search
import Derived.Test.YbulkbasiFmtProg
namespace Go.Proofs
open Go.Shelf
def Ybaf.lays189_ren : Go.Shelf.Ren := ⟨fun | 189 => 7 | 125 => 21 | 257 => 20 | 128 => 40 | 129 => 41 | 294 => 31 | 295 => 32 | 296 => 33 | 297 => 34 | 298 => 35 | 299 => 36 | 216 => 37 | 300 => 38 | 301 => 39 | 328 => 50 | 329 => 51 | 330 => 52 | 331 => 53 | 332 => 54 | 215 => 55 | 343 => 59 | n => n, fun | 28 => 25 | 3 => 3 | 46 => 47 | 0 => 0 | 51 => 35 | 53 => 28 | 4 => 4 | 183 => 87 | 182 => 86 | 131 => 92 | 5 => 5 | 9 => 9 | 218 => 101 | 222 => 104 | 228 => 109 | 229 => 110 | n => n, fun | n => n⟩
theorem Ybaf.lays189 : Go.Proofs.Lays.n189 Ybaf.prog Ybaf.lays189_ren := {
  mixed := by kernel_rfl
  f125 := Ybaf.func21.trans (congrArg some (by kernel_rfl))
  f128 := Ybaf.func40.trans (congrArg some (by kernel_rfl))
  f129 := Ybaf.func41.trans (congrArg some (by kernel_rfl))
  f189 := Ybaf.func7.trans (congrArg some (by kernel_rfl))
  f215 := Ybaf.func55.trans (congrArg some (by kernel_rfl))
  f216 := Ybaf.func37.trans (congrArg some (by kernel_rfl))
  f257 := Ybaf.func20.trans (congrArg some (by kernel_rfl))
  f294 := Ybaf.func31.trans (congrArg some (by kernel_rfl))
  f295 := Ybaf.func32.trans (congrArg some (by kernel_rfl))
  f296 := Ybaf.func33.trans (congrArg some (by kernel_rfl))
  f297 := Ybaf.func34.trans (congrArg some (by kernel_rfl))
  f298 := Ybaf.func35.trans (congrArg some (by kernel_rfl))
  f299 := Ybaf.func36.trans (congrArg some (by kernel_rfl))
  f300 := Ybaf.func38.trans (congrArg some (by kernel_rfl))
  f301 := Ybaf.func39.trans (congrArg some (by kernel_rfl))
  f328 := Ybaf.func50.trans (congrArg some (by kernel_rfl))
  f329 := Ybaf.func51.trans (congrArg some (by kernel_rfl))
  f330 := Ybaf.func52.trans (congrArg some (by kernel_rfl))
  f331 := Ybaf.func53.trans (congrArg some (by kernel_rfl))
  f332 := Ybaf.func54.trans (congrArg some (by kernel_rfl))
  f343 := Ybaf.func59.trans (congrArg some (by kernel_rfl))
  t0 := Ybaf.underlying0
  a0 := Ybaf.isAgg0
  z0 := Ybaf.sizeOf0
  v0 := Ybaf.zeroValue0
  t3 := Ybaf.underlying3
  a3 := Ybaf.isAgg3
  z3 := Ybaf.sizeOf3
  v3 := Ybaf.zeroValue3
  t4 := Ybaf.underlying4
  a4 := Ybaf.isAgg4
  z4 := Ybaf.sizeOf4
  v4 := Ybaf.zeroValue4
  t5 := Ybaf.underlying5
  a5 := Ybaf.isAgg5
  z5 := Ybaf.sizeOf5
  v5 := Ybaf.zeroValue5
  t9 := Ybaf.underlying9
  a9 := Ybaf.isAgg9
  z9 := Ybaf.sizeOf9
  v9 := Ybaf.zeroValue9
  t28 := Ybaf.underlying25
  a28 := Ybaf.isAgg25
  z28 := Ybaf.sizeOf25
  v28 := Ybaf.zeroValue25
  t46 := Ybaf.underlying47
  a46 := Ybaf.isAgg47
  z46 := Ybaf.sizeOf47
  v46 := Ybaf.zeroValue47
  t51 := Ybaf.underlying35
  a51 := Ybaf.isAgg35
  z51 := Ybaf.sizeOf35
  v51 := Ybaf.zeroValue35
  t53 := Ybaf.underlying28
  a53 := Ybaf.isAgg28
  z53 := Ybaf.sizeOf28
  v53 := Ybaf.zeroValue28
  t131 := Ybaf.underlying92
  a131 := Ybaf.isAgg92
  z131 := Ybaf.sizeOf92
  v131 := Ybaf.zeroValue92
  t182 := Ybaf.underlying86
  a182 := Ybaf.isAgg86
  z182 := Ybaf.sizeOf86
  v182 := Ybaf.zeroValue86
  t183 := Ybaf.underlying87
  a183 := Ybaf.isAgg87
  z183 := Ybaf.sizeOf87
  v183 := Ybaf.zeroValue87
  t218 := Ybaf.underlying101
  a218 := Ybaf.isAgg101
  z218 := Ybaf.sizeOf101
  v218 := Ybaf.zeroValue101
  t222 := Ybaf.underlying104
  a222 := Ybaf.isAgg104
  z222 := Ybaf.sizeOf104
  v222 := Ybaf.zeroValue104
  t228 := Ybaf.underlying109
  a228 := Ybaf.isAgg109
  z228 := Ybaf.sizeOf109
  v228 := Ybaf.zeroValue109
  t229 := Ybaf.underlying110
  a229 := Ybaf.isAgg110
  z229 := Ybaf.sizeOf110
  v229 := Ybaf.zeroValue110 }
open Go.Sort Go.RowKit in
theorem Ybaf.slices_Sort_int (blk off cap : Nat) (zs : List Int) (w : World) (hH : Holds (Value.int .i64) w blk off zs.toArray) (hblk : blk < w.heap.size) (hsz : zs.length < 4611686018427387904) :
    Calls Ybaf.prog 7 #[.slice (some ⟨blk, off, none⟩) zs.length cap] w fun e w' =>
      e = .returned (.tuple #[]) ∧ ∃ n os, w' = grow (putRow (Value.int .i64) (Sort.ahead w n) blk off (zs.mergeSort fun x y => decide (x ≤ y)).toArray) os := Any.slices_Sort_int Ybaf.lays189 blk off cap zs w hH hblk hsz
def Ybaf.laysNm220_ren : Go.Shelf.Ren := ⟨fun | 20 => 8 | n => n, fun | 22 => 25 | 3 => 3 | 4 => 4 | 0 => 0 | n => n, fun | n => n⟩
theorem Ybaf.laysNm220 : Go.Proofs.Lays2.n20 Ybaf.prog Ybaf.laysNm220_ren := {
  mixed := by kernel_rfl
  f20 := Ybaf.func8.trans (congrArg some (by kernel_rfl))
  t0 := Ybaf.underlying0
  a0 := Ybaf.isAgg0
  z0 := Ybaf.sizeOf0
  v0 := Ybaf.zeroValue0
  t3 := Ybaf.underlying3
  a3 := Ybaf.isAgg3
  z3 := Ybaf.sizeOf3
  v3 := Ybaf.zeroValue3
  t4 := Ybaf.underlying4
  a4 := Ybaf.isAgg4
  z4 := Ybaf.sizeOf4
  v4 := Ybaf.zeroValue4
  t22 := Ybaf.underlying25
  a22 := Ybaf.isAgg25
  z22 := Ybaf.sizeOf25
  v22 := Ybaf.zeroValue25
  i3 := by kernel_rfl }
open Go.RowKit Go.Lib Go.Sort in
/-- slices.Compact at []int, over an array: the library's two loops are walked. (LAID: no walk: one application.) -/
theorem Ybaf.slices_Compact_int_arr (blk off cap : Nat) (d : Array Int) (w : World) (hH : Holds encI w blk off d) (hsz : d.size ≤ 9223372036854775807) (hcap : d.size ≤ cap) :
    Calls Ybaf.prog 8 #[.slice (some ⟨blk, off, none⟩) d.size cap] w fun e w' => e = .returned (.slice (some ⟨blk, off, none⟩) (compactUpTo d d.size).length cap) ∧ ∃ q, w' = putRow encI (Sort.ahead w q) blk off (compactUpTo d d.size ++ List.replicate (d.size - (compactUpTo d d.size).length) 0).toArray := Any.slices_Compact_int_arr Ybaf.laysNm220 blk off cap d w hH hsz hcap
open Go.RowKit Go.Lib Go.Sort in
/-- slices.Compact at []int: "Compact replaces consecutive runs of equal elements with a single copy. This is like the uniq command found on Unix. Compact modifies the contents of the slice s and returns the modified slice, which may have a smaller length. Compact zeroes the elements between the new length and the original length. The result preserves the nilness of s.": IT RETURNS THE SLICE CUT TO 'Lib.compact zs'; ITS CELLS HOLD 'Lib.compact zs', THEN ZERO VALUES up to the old length; all else is as it was, but for the count of draws. IN THE WORDS OF slices.Sort's CONTRACT ('Holds', 'putRow'): so the everyday 'slices.Sort(xs); xs = slices.Compact(xs)' goes from the one contract to the other. It asks 'zs.length ≤ cap' (every slice's: the reslicing 's[:k]' looks at it). Length 0, nil: '.._empty'. (LAID: no walk: one application.) -/
theorem Ybaf.slices_Compact_int (blk off cap : Nat) (zs : List Int) (w : World) (hH : Holds (Value.int .i64) w blk off zs.toArray) (hsz : zs.length ≤ 9223372036854775807) (hcap : zs.length ≤ cap) :
    Calls Ybaf.prog 8 #[.slice (some ⟨blk, off, none⟩) zs.length cap] w fun e w' => e = .returned (.slice (some ⟨blk, off, none⟩) (Lib.compact zs).length cap) ∧ ∃ q, w' = putRow (Value.int .i64) (Sort.ahead w q) blk off (Lib.compact zs ++ List.replicate (zs.length - (Lib.compact zs).length) 0).toArray := Any.slices_Compact_int Ybaf.laysNm220 blk off cap zs w hH hsz hcap
open Go.RowKit Go.Lib Go.Sort in
/-- The same at a slice of length 0, a nil one too: it comes back as it is. (LAID: no walk: one application.) -/
theorem Ybaf.slices_Compact_int_empty (a : Option Addr) (cap : Nat) (w : World) :
    Calls Ybaf.prog 8 #[.slice a 0 cap] w fun e w' => e = .returned (.slice a 0 cap) ∧ w' = w := Any.slices_Compact_int_empty Ybaf.laysNm220 a cap w
def Ybaf.search_ren : Go.Shelf.Ren := ⟨fun | 16 => 44 | n => n, fun | 3 => 3 | 35 => 98 | 4 => 4 | 38 => 47 | n => n, fun | n => n⟩
theorem Ybaf.search : Go.Proofs.SlLaysO.n16 Ybaf.prog Ybaf.search_ren := {
  mixed := by kernel_rfl
  f16 := Ybaf.func44.trans (congrArg some (by kernel_rfl))
  t3 := Ybaf.underlying3
  a3 := Ybaf.isAgg3
  z3 := Ybaf.sizeOf3
  v3 := Ybaf.zeroValue3
  t4 := Ybaf.underlying4
  a4 := Ybaf.isAgg4
  z4 := Ybaf.sizeOf4
  v4 := Ybaf.zeroValue4
  t35 := Ybaf.underlying98
  a35 := Ybaf.isAgg98
  z35 := Ybaf.sizeOf98
  v35 := Ybaf.zeroValue98
  t38 := Ybaf.underlying47
  a38 := Ybaf.isAgg47
  z38 := Ybaf.sizeOf47
  v38 := Ybaf.zeroValue47 }
end Go.Proofs
