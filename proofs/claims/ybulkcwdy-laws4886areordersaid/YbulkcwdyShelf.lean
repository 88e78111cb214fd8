/-
  DERIVED: THE SHELF's CONTRACTS AT THIS DUMP, IN PLAIN WORDS (tools/lay-plain.mjs out of 'YbaShelf.lean', which tools/lay-shelf.mjs wrote): THE SAME DECLARATIONS UNDER THE SAME NAMES: 'import', 'namespace', 'open', 'def', 'theorem' AND NOTHING ELSE: no command of the shelf's: FOR A HAND-IN. Each laying: the table of numbers ('.._ren') and one theorem, a field a fact of the dump's own or the kernel's comparison; each contract: ONE APPLICATION.
-/
import Derived.Shelf.Small.Bits
import Derived.Shelf.Small.Wraps
import Derived.Shelf.Strconv.Itoa0
import Derived.Shelf.Sort.Plain
import Derived.Shelf.Slices.Equal
import Derived.Ground.Names2Prog
import Derived.Shelf.Slices.CompactI
import Derived.Shelf.Slices.SearchI
import Derived.Shelf.Slices.Cells
import Derived.Shelf.Slices.In.SortNone
import Derived.Shelf.Slices.Empties
import Derived.Shelf.Slices.Empties2
import Derived.Test.YbulkcwdyProg
namespace Go.Proofs
open Go.Shelf
def Yba.lays128_ren : Go.Shelf.Ren := ⟨fun | 128 => 31 | n => n, fun | 51 => 74 | 3 => 3 | 4 => 4 | 46 => 56 | 5 => 5 | 9 => 9 | n => n, fun | n => n⟩
theorem Yba.lays128 : Go.Proofs.Lays.n128 Yba.prog Yba.lays128_ren := {
  mixed := by kernel_rfl
  f128 := Yba.func31.trans (congrArg some (by kernel_rfl))
  t3 := Yba.underlying3
  a3 := Yba.isAgg3
  z3 := Yba.sizeOf3
  v3 := Yba.zeroValue3
  t4 := Yba.underlying4
  a4 := Yba.isAgg4
  z4 := Yba.sizeOf4
  v4 := Yba.zeroValue4
  t5 := Yba.underlying5
  a5 := Yba.isAgg5
  z5 := Yba.sizeOf5
  v5 := Yba.zeroValue5
  t9 := Yba.underlying9
  a9 := Yba.isAgg9
  z9 := Yba.sizeOf9
  v9 := Yba.zeroValue9
  t46 := Yba.underlying56
  a46 := Yba.isAgg56
  z46 := Yba.sizeOf56
  v46 := Yba.zeroValue56
  t51 := Yba.underlying74
  a51 := Yba.isAgg74
  z51 := Yba.sizeOf74
  v51 := Yba.zeroValue74 }
/-- bits.Len32: "Len32 returns the minimum number of bits required to represent x; the result is 0 for x == 0.": IT RETURNS 'Lib.bitLen x'; the world is as it was. ('h0', 'h1': x is a uint32.) (LAID: no walk: one application.) -/
theorem Yba.bits_Len32 (x : Int) (w : World) (h0 : 0 ≤ x) (h1 : x ≤ 4294967295) :
    Calls Yba.prog 31 #[.int .u32 x] w fun e w' => e = .returned (.int .i64 (Lib.bitLen x.toNat)) ∧ w' = w := Any.bits_Len32 Yba.lays128 x w h0 h1
def Yba.lays125_ren : Go.Shelf.Ren := ⟨fun | 125 => 18 | 128 => 31 | 129 => 32 | n => n, fun | 46 => 56 | 3 => 3 | 51 => 74 | 53 => 47 | 4 => 4 | 5 => 5 | 9 => 9 | n => n, fun | n => n⟩
theorem Yba.lays125 : Go.Proofs.Lays.n125 Yba.prog Yba.lays125_ren := {
  mixed := by kernel_rfl
  f125 := Yba.func18.trans (congrArg some (by kernel_rfl))
  f128 := Yba.func31.trans (congrArg some (by kernel_rfl))
  f129 := Yba.func32.trans (congrArg some (by kernel_rfl))
  t3 := Yba.underlying3
  a3 := Yba.isAgg3
  z3 := Yba.sizeOf3
  v3 := Yba.zeroValue3
  t4 := Yba.underlying4
  a4 := Yba.isAgg4
  z4 := Yba.sizeOf4
  v4 := Yba.zeroValue4
  t5 := Yba.underlying5
  a5 := Yba.isAgg5
  z5 := Yba.sizeOf5
  v5 := Yba.zeroValue5
  t9 := Yba.underlying9
  a9 := Yba.isAgg9
  z9 := Yba.sizeOf9
  v9 := Yba.zeroValue9
  t46 := Yba.underlying56
  a46 := Yba.isAgg56
  z46 := Yba.sizeOf56
  v46 := Yba.zeroValue56
  t51 := Yba.underlying74
  a51 := Yba.isAgg74
  z51 := Yba.sizeOf74
  v51 := Yba.zeroValue74
  t53 := Yba.underlying47
  a53 := Yba.isAgg47
  z53 := Yba.sizeOf47
  v53 := Yba.zeroValue47 }
/-- bits.Len: "Len returns the minimum number of bits required to represent x; the result is 0 for x == 0.": IT RETURNS 'Lib.bitLen x'; the world is as it was. (A uint has 64 bits in the model.) ITS CALLEE bits.Len64 IS MET BY ITS OWN CONTRACT OFF THE SHELF (lay that first). (LAID: no walk: one application.) -/
theorem Yba.bits_Len (x : Int) (w : World) (h0 : 0 ≤ x) (h1 : x ≤ 18446744073709551615) :
    Calls Yba.prog 18 #[.int .u64 x] w fun e w' => e = .returned (.int .i64 (Lib.bitLen x.toNat)) ∧ w' = w := Any.bits_Len Yba.lays125 x w h0 h1
def Yba.lays215_ren : Go.Shelf.Ren := ⟨fun | 215 => 22 | n => n, fun | 3 => 3 | 4 => 4 | n => n, fun | n => n⟩
theorem Yba.lays215 : Go.Proofs.Lays.n215 Yba.prog Yba.lays215_ren := {
  mixed := by kernel_rfl
  f215 := Yba.func22.trans (congrArg some (by kernel_rfl))
  t3 := Yba.underlying3
  a3 := Yba.isAgg3
  z3 := Yba.sizeOf3
  v3 := Yba.zeroValue3
  t4 := Yba.underlying4
  a4 := Yba.isAgg4
  z4 := Yba.sizeOf4
  v4 := Yba.zeroValue4 }
open Go.RowKit in
/-- cmp.isNaN at int: 'x != x': false. (LAID: no walk: one application.) -/
theorem Yba.cmp_isNaN_int (x : Int) (w : World) :
    Calls Yba.prog 22 #[.int .i64 x] w fun e w' => e = .returned (.bool false) ∧ w' = w := Any.cmp_isNaN_int Yba.lays215 x w
def Yba.lays122_ren : Go.Shelf.Ren := ⟨fun | 122 => 16 | 215 => 22 | n => n, fun | 3 => 3 | 4 => 4 | n => n, fun | n => n⟩
theorem Yba.lays122 : Go.Proofs.Lays.n122 Yba.prog Yba.lays122_ren := {
  mixed := by kernel_rfl
  f122 := Yba.func16.trans (congrArg some (by kernel_rfl))
  f215 := Yba.func22.trans (congrArg some (by kernel_rfl))
  t3 := Yba.underlying3
  a3 := Yba.isAgg3
  z3 := Yba.sizeOf3
  v3 := Yba.zeroValue3
  t4 := Yba.underlying4
  a4 := Yba.isAgg4
  z4 := Yba.sizeOf4
  v4 := Yba.zeroValue4 }
open Go.RowKit in
/-- cmp.Compare at int: "Compare returns -1 if x is less than y, 0 if x equals y, +1 if x is greater than y.": IT RETURNS 'Lib.compareInt x y'; the world is as it was. (LAID: no walk: one application.) -/
theorem Yba.cmp_Compare_int (x y : Int) (w : World) :
    Calls Yba.prog 16 #[.int .i64 x, .int .i64 y] w fun e w' => e = .returned (.int .i64 (Lib.compareInt x y)) ∧ w' = w := Any.cmp_Compare_int Yba.lays122 x y w
def Yba.lays129_ren : Go.Shelf.Ren := ⟨fun | 129 => 32 | n => n, fun | 53 => 47 | 3 => 3 | 4 => 4 | 46 => 56 | 5 => 5 | 9 => 9 | n => n, fun | n => n⟩
theorem Yba.lays129 : Go.Proofs.Lays.n129 Yba.prog Yba.lays129_ren := {
  mixed := by kernel_rfl
  f129 := Yba.func32.trans (congrArg some (by kernel_rfl))
  t3 := Yba.underlying3
  a3 := Yba.isAgg3
  z3 := Yba.sizeOf3
  v3 := Yba.zeroValue3
  t4 := Yba.underlying4
  a4 := Yba.isAgg4
  z4 := Yba.sizeOf4
  v4 := Yba.zeroValue4
  t5 := Yba.underlying5
  a5 := Yba.isAgg5
  z5 := Yba.sizeOf5
  v5 := Yba.zeroValue5
  t9 := Yba.underlying9
  a9 := Yba.isAgg9
  z9 := Yba.sizeOf9
  v9 := Yba.zeroValue9
  t46 := Yba.underlying56
  a46 := Yba.isAgg56
  z46 := Yba.sizeOf56
  v46 := Yba.zeroValue56
  t53 := Yba.underlying47
  a53 := Yba.isAgg47
  z53 := Yba.sizeOf47
  v53 := Yba.zeroValue47 }
/-- bits.Len64: "Len64 returns the minimum number of bits required to represent x; the result is 0 for x == 0.": IT RETURNS 'Lib.bitLen x'; the world is as it was. ('h0', 'h1': x is a uint64.) (LAID: no walk: one application.) -/
theorem Yba.bits_Len64 (x : Int) (w : World) (h0 : 0 ≤ x) (h1 : x ≤ 18446744073709551615) :
    Calls Yba.prog 32 #[.int .u64 x] w fun e w' => e = .returned (.int .i64 (Lib.bitLen x.toNat)) ∧ w' = w := Any.bits_Len64 Yba.lays129 x w h0 h1
def Yba.lays189_ren : Go.Shelf.Ren := ⟨fun | 189 => 9 | 125 => 18 | 257 => 17 | 128 => 31 | 129 => 32 | 294 => 23 | 295 => 24 | 296 => 25 | 297 => 26 | 298 => 27 | 299 => 28 | 216 => 19 | 300 => 29 | 301 => 30 | 328 => 35 | 329 => 36 | 330 => 37 | 331 => 38 | 332 => 39 | 215 => 22 | 343 => 49 | n => n, fun | 28 => 22 | 3 => 3 | 46 => 56 | 0 => 0 | 51 => 74 | 53 => 47 | 4 => 4 | 183 => 68 | 182 => 67 | 131 => 62 | 5 => 5 | 9 => 9 | 218 => 78 | 222 => 82 | 228 => 89 | 229 => 90 | n => n, fun | n => n⟩
theorem Yba.lays189 : Go.Proofs.Lays.n189 Yba.prog Yba.lays189_ren := {
  mixed := by kernel_rfl
  f125 := Yba.func18.trans (congrArg some (by kernel_rfl))
  f128 := Yba.func31.trans (congrArg some (by kernel_rfl))
  f129 := Yba.func32.trans (congrArg some (by kernel_rfl))
  f189 := Yba.func9.trans (congrArg some (by kernel_rfl))
  f215 := Yba.func22.trans (congrArg some (by kernel_rfl))
  f216 := Yba.func19.trans (congrArg some (by kernel_rfl))
  f257 := Yba.func17.trans (congrArg some (by kernel_rfl))
  f294 := Yba.func23.trans (congrArg some (by kernel_rfl))
  f295 := Yba.func24.trans (congrArg some (by kernel_rfl))
  f296 := Yba.func25.trans (congrArg some (by kernel_rfl))
  f297 := Yba.func26.trans (congrArg some (by kernel_rfl))
  f298 := Yba.func27.trans (congrArg some (by kernel_rfl))
  f299 := Yba.func28.trans (congrArg some (by kernel_rfl))
  f300 := Yba.func29.trans (congrArg some (by kernel_rfl))
  f301 := Yba.func30.trans (congrArg some (by kernel_rfl))
  f328 := Yba.func35.trans (congrArg some (by kernel_rfl))
  f329 := Yba.func36.trans (congrArg some (by kernel_rfl))
  f330 := Yba.func37.trans (congrArg some (by kernel_rfl))
  f331 := Yba.func38.trans (congrArg some (by kernel_rfl))
  f332 := Yba.func39.trans (congrArg some (by kernel_rfl))
  f343 := Yba.func49.trans (congrArg some (by kernel_rfl))
  t0 := Yba.underlying0
  a0 := Yba.isAgg0
  z0 := Yba.sizeOf0
  v0 := Yba.zeroValue0
  t3 := Yba.underlying3
  a3 := Yba.isAgg3
  z3 := Yba.sizeOf3
  v3 := Yba.zeroValue3
  t4 := Yba.underlying4
  a4 := Yba.isAgg4
  z4 := Yba.sizeOf4
  v4 := Yba.zeroValue4
  t5 := Yba.underlying5
  a5 := Yba.isAgg5
  z5 := Yba.sizeOf5
  v5 := Yba.zeroValue5
  t9 := Yba.underlying9
  a9 := Yba.isAgg9
  z9 := Yba.sizeOf9
  v9 := Yba.zeroValue9
  t28 := Yba.underlying22
  a28 := Yba.isAgg22
  z28 := Yba.sizeOf22
  v28 := Yba.zeroValue22
  t46 := Yba.underlying56
  a46 := Yba.isAgg56
  z46 := Yba.sizeOf56
  v46 := Yba.zeroValue56
  t51 := Yba.underlying74
  a51 := Yba.isAgg74
  z51 := Yba.sizeOf74
  v51 := Yba.zeroValue74
  t53 := Yba.underlying47
  a53 := Yba.isAgg47
  z53 := Yba.sizeOf47
  v53 := Yba.zeroValue47
  t131 := Yba.underlying62
  a131 := Yba.isAgg62
  z131 := Yba.sizeOf62
  v131 := Yba.zeroValue62
  t182 := Yba.underlying67
  a182 := Yba.isAgg67
  z182 := Yba.sizeOf67
  v182 := Yba.zeroValue67
  t183 := Yba.underlying68
  a183 := Yba.isAgg68
  z183 := Yba.sizeOf68
  v183 := Yba.zeroValue68
  t218 := Yba.underlying78
  a218 := Yba.isAgg78
  z218 := Yba.sizeOf78
  v218 := Yba.zeroValue78
  t222 := Yba.underlying82
  a222 := Yba.isAgg82
  z222 := Yba.sizeOf82
  v222 := Yba.zeroValue82
  t228 := Yba.underlying89
  a228 := Yba.isAgg89
  z228 := Yba.sizeOf89
  v228 := Yba.zeroValue89
  t229 := Yba.underlying90
  a229 := Yba.isAgg90
  z229 := Yba.sizeOf90
  v229 := Yba.zeroValue90 }
open Go.Sort Go.RowKit in
theorem Yba.slices_Sort_int (blk off cap : Nat) (zs : List Int) (w : World) (hH : Holds (Value.int .i64) w blk off zs.toArray) (hblk : blk < w.heap.size) (hsz : zs.length < 4611686018427387904) :
    Calls Yba.prog 9 #[.slice (some ⟨blk, off, none⟩) zs.length cap] w fun e w' =>
      e = .returned (.tuple #[]) ∧ ∃ n os, w' = grow (putRow (Value.int .i64) (Sort.ahead w n) blk off (zs.mergeSort fun x y => decide (x ≤ y)).toArray) os := Any.slices_Sort_int Yba.lays189 blk off cap zs w hH hblk hsz
def Yba.lays111_ren : Go.Shelf.Ren := ⟨fun | 111 => 8 | n => n, fun | 28 => 22 | 3 => 3 | 4 => 4 | 0 => 0 | n => n, fun | n => n⟩
theorem Yba.lays111 : Go.Proofs.Lays.n111 Yba.prog Yba.lays111_ren := {
  mixed := by kernel_rfl
  f111 := Yba.func8.trans (congrArg some (by kernel_rfl))
  t0 := Yba.underlying0
  a0 := Yba.isAgg0
  z0 := Yba.sizeOf0
  v0 := Yba.zeroValue0
  t3 := Yba.underlying3
  a3 := Yba.isAgg3
  z3 := Yba.sizeOf3
  v3 := Yba.zeroValue3
  t4 := Yba.underlying4
  a4 := Yba.isAgg4
  z4 := Yba.sizeOf4
  v4 := Yba.zeroValue4
  t28 := Yba.underlying22
  a28 := Yba.isAgg22
  z28 := Yba.sizeOf22
  v28 := Yba.zeroValue22 }
open Go.RowKit Go.Lib in
/-- slices.Equal at []int: "Equal reports whether two slices are equal: the same length and all elements equal. If the lengths are different, Equal returns false. Otherwise, the elements are compared in increasing index order, and the comparison stops at the first unequal pair. Empty and nil slices are considered equal.": IT RETURNS WHETHER THE TWO LISTS OF ELEMENTS ARE ONE; the world is as it was but for the count of draws (the test 's1[i] != s2[i]' has two reads, whose order the model draws, once a round). 'xs', 'ys': what the cells behind the two addresses hold (the spare capacity too, if you have it); 'xs.take n', 'ys.take m': the elements. THE TWO SLICES MAY OVERLAP. (LAID: no walk: one application.) -/
theorem Yba.slices_Equal_int (b1 o1 n c b2 o2 m d : Nat) (xs ys : List Int) (w : World) (hx : n ≤ xs.length) (hy : m ≤ ys.length) (hbig : n ≤ 9223372036854775807) (hbig2 : m ≤ 9223372036854775807) (hc1 : ∀ j, j < xs.length → w.cell? ⟨b1, o1 + j, none⟩ = some (.int .i64 (xs.getD j 0))) (hc2 : ∀ j, j < ys.length → w.cell? ⟨b2, o2 + j, none⟩ = some (.int .i64 (ys.getD j 0))) :
    Calls Yba.prog 8 #[.slice (some ⟨b1, o1, none⟩) n c, .slice (some ⟨b2, o2, none⟩) m d] w fun e w' => e = .returned (.bool (xs.take n == ys.take m)) ∧ ∃ q, w' = w.drewN q := Any.slices_Equal_int Yba.lays111 b1 o1 n c b2 o2 m d xs ys w hx hy hbig hbig2 hc1 hc2
open Go.RowKit Go.Lib in
/-- The same where the first is of length 0 (a nil one too): no cell is asked for. (LAID: no walk: one application.) -/
theorem Yba.slices_Equal_int_empty (a1 a2 : Option Addr) (c m d : Nat) (w : World) (hbig2 : m ≤ 9223372036854775807) :
    Calls Yba.prog 8 #[.slice a1 0 c, .slice a2 m d] w fun e w' => e = .returned (.bool (decide (m = 0))) ∧ w' = w := Any.slices_Equal_int_empty Yba.lays111 a1 a2 c m d w hbig2
def Yba.laysNm220_ren : Go.Shelf.Ren := ⟨fun | 20 => 13 | n => n, fun | 22 => 22 | 3 => 3 | 4 => 4 | 0 => 0 | n => n, fun | n => n⟩
theorem Yba.laysNm220 : Go.Proofs.Lays2.n20 Yba.prog Yba.laysNm220_ren := {
  mixed := by kernel_rfl
  f20 := Yba.func13.trans (congrArg some (by kernel_rfl))
  t0 := Yba.underlying0
  a0 := Yba.isAgg0
  z0 := Yba.sizeOf0
  v0 := Yba.zeroValue0
  t3 := Yba.underlying3
  a3 := Yba.isAgg3
  z3 := Yba.sizeOf3
  v3 := Yba.zeroValue3
  t4 := Yba.underlying4
  a4 := Yba.isAgg4
  z4 := Yba.sizeOf4
  v4 := Yba.zeroValue4
  t22 := Yba.underlying22
  a22 := Yba.isAgg22
  z22 := Yba.sizeOf22
  v22 := Yba.zeroValue22
  i3 := by kernel_rfl }
open Go.RowKit Go.Lib Go.Sort in
/-- slices.Compact at []int, over an array: the library's two loops are walked. (LAID: no walk: one application.) -/
theorem Yba.slices_Compact_int_arr (blk off cap : Nat) (d : Array Int) (w : World) (hH : Holds encI w blk off d) (hsz : d.size ≤ 9223372036854775807) (hcap : d.size ≤ cap) :
    Calls Yba.prog 13 #[.slice (some ⟨blk, off, none⟩) d.size cap] w fun e w' => e = .returned (.slice (some ⟨blk, off, none⟩) (compactUpTo d d.size).length cap) ∧ ∃ q, w' = putRow encI (Sort.ahead w q) blk off (compactUpTo d d.size ++ List.replicate (d.size - (compactUpTo d d.size).length) 0).toArray := Any.slices_Compact_int_arr Yba.laysNm220 blk off cap d w hH hsz hcap
open Go.RowKit Go.Lib Go.Sort in
/-- slices.Compact at []int: "Compact replaces consecutive runs of equal elements with a single copy. This is like the uniq command found on Unix. Compact modifies the contents of the slice s and returns the modified slice, which may have a smaller length. Compact zeroes the elements between the new length and the original length. The result preserves the nilness of s.": IT RETURNS THE SLICE CUT TO 'Lib.compact zs'; ITS CELLS HOLD 'Lib.compact zs', THEN ZERO VALUES up to the old length; all else is as it was, but for the count of draws. IN THE WORDS OF slices.Sort's CONTRACT ('Holds', 'putRow'): so the everyday 'slices.Sort(xs); xs = slices.Compact(xs)' goes from the one contract to the other. It asks 'zs.length ≤ cap' (every slice's: the reslicing 's[:k]' looks at it). Length 0, nil: '.._empty'. (LAID: no walk: one application.) -/
theorem Yba.slices_Compact_int (blk off cap : Nat) (zs : List Int) (w : World) (hH : Holds (Value.int .i64) w blk off zs.toArray) (hsz : zs.length ≤ 9223372036854775807) (hcap : zs.length ≤ cap) :
    Calls Yba.prog 13 #[.slice (some ⟨blk, off, none⟩) zs.length cap] w fun e w' => e = .returned (.slice (some ⟨blk, off, none⟩) (Lib.compact zs).length cap) ∧ ∃ q, w' = putRow (Value.int .i64) (Sort.ahead w q) blk off (Lib.compact zs ++ List.replicate (zs.length - (Lib.compact zs).length) 0).toArray := Any.slices_Compact_int Yba.laysNm220 blk off cap zs w hH hsz hcap
open Go.RowKit Go.Lib Go.Sort in
/-- The same at a slice of length 0, a nil one too: it comes back as it is. (LAID: no walk: one application.) -/
theorem Yba.slices_Compact_int_empty (a : Option Addr) (cap : Nat) (w : World) :
    Calls Yba.prog 13 #[.slice a 0 cap] w fun e w' => e = .returned (.slice a 0 cap) ∧ w' = w := Any.slices_Compact_int_empty Yba.laysNm220 a cap w
def Yba.laysNm237_ren : Go.Shelf.Ren := ⟨fun | 37 => 22 | n => n, fun | 3 => 3 | 4 => 4 | n => n, fun | n => n⟩
theorem Yba.laysNm237 : Go.Proofs.Lays2.n37 Yba.prog Yba.laysNm237_ren := {
  mixed := by kernel_rfl
  f37 := Yba.func22.trans (congrArg some (by kernel_rfl))
  t3 := Yba.underlying3
  a3 := Yba.isAgg3
  z3 := Yba.sizeOf3
  v3 := Yba.zeroValue3
  t4 := Yba.underlying4
  a4 := Yba.isAgg4
  z4 := Yba.sizeOf4
  v4 := Yba.zeroValue4 }
open Go.RowKit Go.Lib in
/-- cmp.isNaN[int]: 'x != x': false. (LAID: no walk: one application.) -/
theorem Yba.cmp_isNaN_int2 (x : Int) (w : World) :
    Calls Yba.prog 22 #[.int .i64 x] w fun e w' => e = .returned (.bool false) ∧ w' = w := Any.cmp_isNaN_int2 Yba.laysNm237 x w
def Yba.laysNm232_ren : Go.Shelf.Ren := ⟨fun | 32 => 40 | n => n, fun | 3 => 3 | 4 => 4 | n => n, fun | n => n⟩
theorem Yba.laysNm232 : Go.Proofs.Lays2.n32 Yba.prog Yba.laysNm232_ren := {
  mixed := by kernel_rfl
  f32 := Yba.func40.trans (congrArg some (by kernel_rfl))
  t3 := Yba.underlying3
  a3 := Yba.isAgg3
  z3 := Yba.sizeOf3
  v3 := Yba.zeroValue3
  t4 := Yba.underlying4
  a4 := Yba.isAgg4
  z4 := Yba.sizeOf4
  v4 := Yba.zeroValue4 }
open Go.RowKit Go.Lib in
/-- slices.isNaN[int]: 'x != x': false. (LAID: no walk: one application.) -/
theorem Yba.slices_isNaN_int2 (x : Int) (w : World) :
    Calls Yba.prog 40 #[.int .i64 x] w fun e w' => e = .returned (.bool false) ∧ w' = w := Any.slices_isNaN_int2 Yba.laysNm232 x w
def Yba.laysNm231_ren : Go.Shelf.Ren := ⟨fun | 31 => 19 | 37 => 22 | n => n, fun | 3 => 3 | 4 => 4 | n => n, fun | n => n⟩
theorem Yba.laysNm231 : Go.Proofs.Lays2.n31 Yba.prog Yba.laysNm231_ren := {
  mixed := by kernel_rfl
  f31 := Yba.func19.trans (congrArg some (by kernel_rfl))
  f37 := Yba.func22.trans (congrArg some (by kernel_rfl))
  t3 := Yba.underlying3
  a3 := Yba.isAgg3
  z3 := Yba.sizeOf3
  v3 := Yba.zeroValue3
  t4 := Yba.underlying4
  a4 := Yba.isAgg4
  z4 := Yba.sizeOf4
  v4 := Yba.zeroValue4 }
open Go.RowKit Go.Lib in
/-- cmp.Less[int]: "Less reports whether x is less than y.": 'x < y'; the world is as it was. (LAID: no walk: one application.) -/
theorem Yba.cmp_Less_int2 (x y : Int) (w : World) :
    Calls Yba.prog 19 #[.int .i64 x, .int .i64 y] w fun e w' => e = .returned (.bool (decide (x < y))) ∧ w' = w := Any.cmp_Less_int2 Yba.laysNm231 x y w
def Yba.laysNm225_ren : Go.Shelf.Ren := ⟨fun | 25 => 33 | 31 => 19 | 32 => 40 | 37 => 22 | n => n, fun | 22 => 22 | 3 => 3 | 4 => 4 | 40 => 56 | 0 => 0 | n => n, fun | n => n⟩
theorem Yba.laysNm225 : Go.Proofs.Lays2.n25 Yba.prog Yba.laysNm225_ren := {
  mixed := by kernel_rfl
  f25 := Yba.func33.trans (congrArg some (by kernel_rfl))
  f31 := Yba.func19.trans (congrArg some (by kernel_rfl))
  f32 := Yba.func40.trans (congrArg some (by kernel_rfl))
  f37 := Yba.func22.trans (congrArg some (by kernel_rfl))
  t0 := Yba.underlying0
  a0 := Yba.isAgg0
  z0 := Yba.sizeOf0
  v0 := Yba.zeroValue0
  t3 := Yba.underlying3
  a3 := Yba.isAgg3
  z3 := Yba.sizeOf3
  v3 := Yba.zeroValue3
  t4 := Yba.underlying4
  a4 := Yba.isAgg4
  z4 := Yba.sizeOf4
  v4 := Yba.zeroValue4
  t22 := Yba.underlying22
  a22 := Yba.isAgg22
  z22 := Yba.sizeOf22
  v22 := Yba.zeroValue22
  t40 := Yba.underlying56
  a40 := Yba.isAgg56
  z40 := Yba.sizeOf56
  v40 := Yba.zeroValue56 }
open Go.RowKit Go.Lib in
/-- slices.BinarySearch at []int: "BinarySearch searches for target in a sorted slice and returns the earliest position where target is found, or the position where target would appear in the sort order; it also returns a bool saying whether the target is really found in the slice. The slice must be sorted in increasing order.": OF A SORTED SLICE IT RETURNS how many elements are less than the target, and whether the target is among the elements; the world is as it was but for the count of draws. 'zs': what the cells behind the slice's address hold; 'zs.take n': its elements. (Of a slice that is not sorted: no contract here.) (LAID: no walk: one application.) -/
theorem Yba.slices_BinarySearch_int (b off n c : Nat) (zs : List Int) (x : Int) (w : World) (hz : n ≤ zs.length) (hbig : n < 4611686018427387904) (hc : ∀ j, j < zs.length → w.cell? ⟨b, off + j, none⟩ = some (.int .i64 (zs.getD j 0))) (hs : (zs.take n).Pairwise (· ≤ ·)) :
    Calls Yba.prog 33 #[.slice (some ⟨b, off, none⟩) n c, .int .i64 x] w fun e w' => e = .returned (.tuple #[.int .i64 ((zs.take n).countP (· < x) : Nat), .bool ((zs.take n).contains x)]) ∧ ∃ q, w' = w.drewN q := Any.slices_BinarySearch_int Yba.laysNm225 b off n c zs x w hz hbig hc hs
open Go.RowKit Go.Lib Go.Sort in
/-- slices.Compact at []int, of an argument: the slice cut to 'Lib.compact (elements)'; the n cells hold that, then zeros. (LAID: no walk: one application.) -/
theorem Yba.slices_Compact_int_cells (b off n c : Nat) (zs : List Int) (w : World) (hz : n ≤ zs.length) (hbig : n ≤ 9223372036854775807) (hcap : n ≤ c) (hc : ∀ j, j < zs.length → w.cell? ⟨b, off + j, none⟩ = some (.int .i64 (zs.getD j 0))) (hf : ∀ j, j < n → w.frozen? ⟨b, off + j, none⟩ = false) :
    Calls Yba.prog 13 #[.slice (some ⟨b, off, none⟩) n c] w fun e w' => e = .returned (.slice (some ⟨b, off, none⟩) (Lib.compact (zs.take n)).length c) ∧ ∃ q, w' = (w.drewN q).setCells b off ((Lib.compact (zs.take n) ++ List.replicate (n - (Lib.compact (zs.take n)).length) 0).map (Value.int .i64)) := Any.slices_Compact_int_cells Yba.laysNm220 b off n c zs w hz hbig hcap hc hf
open Go.RowKit Go.Sort in
/-- .. and plain. (LAID: no walk: one application.) -/
theorem Yba.slices_Sort_int_none (p : Option Addr) (cap : Nat) (w : World) :
    Calls Yba.prog 9 #[.slice p 0 cap] w fun e w' => e = .returned (.tuple #[]) ∧ w' = w := Any.slices_Sort_int_none Yba.lays189 p cap w
open Go.RowKit Go.Lib in
/-- slices.BinarySearch at []int of no element: position 0, not found; the world is as it was. (LAID: no walk: one application.) -/
theorem Yba.slices_BinarySearch_int_empty (a : Option Addr) (c : Nat) (x : Int) (w : World) :
    Calls Yba.prog 33 #[.slice a 0 c, .int .i64 x] w fun e w' => e = .returned (.tuple #[.int .i64 0, .bool false]) ∧ w' = w := Any.slices_BinarySearch_int_empty Yba.laysNm225 a c x w
open Go.RowKit Go.Lib in
theorem Yba.slices_Equal_int_lens (a1 a2 : Option Addr) (n c m d : Nat) (w : World) (hnm : n ≠ m) :
    Calls Yba.prog 8 #[.slice a1 n c, .slice a2 m d] w fun e w' => e = .returned (.bool false) ∧ w' = w := Any.slices_Equal_int_lens Yba.lays111 a1 a2 n c m d w hnm
end Go.Proofs
