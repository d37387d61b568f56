/-
  DERIVED: THE SHELF's CONTRACTS AT THIS DUMP, IN PLAIN WORDS (tools/lay-plain.mjs out of 'YbaShelf.lean', which tools/lay-shelf.mjs wrote): THE SAME DECLARATIONS UNDER THE SAME NAMES: 'import', 'namespace', 'open', 'def', 'theorem' AND NOTHING ELSE: no command of the shelf's: FOR A HAND-IN. Each laying: the table of numbers ('.._ren') and one theorem, a field a fact of the dump's own or the kernel's comparison; each contract: ONE APPLICATION.
-/
import Derived.Shelf.Small.Bits
import Derived.Shelf.Strconv.Itoa0
import Derived.Shelf.Sort.Plain
import Derived.Shelf.Slices.Equal
import Derived.Ground.Names2Prog
import Derived.Shelf.Slices.SearchI
import Derived.Shelf.Slices.In.SortNone
import Derived.Test.YbulkhwaChecked
namespace Go.Proofs
open Go.Shelf
def Yba.lays128_ren : Go.Shelf.Ren := ⟨fun | 128 => 35 | n => n, fun | 51 => 56 | 3 => 3 | 4 => 4 | 46 => 69 | 5 => 5 | 9 => 9 | n => n, fun | n => n⟩
theorem Yba.lays128 : Go.Proofs.Lays.n128 Yba.prog Yba.lays128_ren := {
  mixed := by kernel_rfl
  f128 := Yba.func35.trans (congrArg some (by kernel_rfl))
  t3 := Yba.underlying3
  a3 := Yba.isAgg3
  z3 := Yba.sizeOf3
  v3 := Yba.zeroValue3
  t4 := Yba.underlying4
  a4 := Yba.isAgg4
  z4 := Yba.sizeOf4
  v4 := Yba.zeroValue4
  t5 := Yba.underlying5
  a5 := Yba.isAgg5
  z5 := Yba.sizeOf5
  v5 := Yba.zeroValue5
  t9 := Yba.underlying9
  a9 := Yba.isAgg9
  z9 := Yba.sizeOf9
  v9 := Yba.zeroValue9
  t46 := Yba.underlying69
  a46 := Yba.isAgg69
  z46 := Yba.sizeOf69
  v46 := Yba.zeroValue69
  t51 := Yba.underlying56
  a51 := Yba.isAgg56
  z51 := Yba.sizeOf56
  v51 := Yba.zeroValue56 }
/-- bits.Len32: "Len32 returns the minimum number of bits required to represent x; the result is 0 for x == 0.": IT RETURNS 'Lib.bitLen x'; the world is as it was. ('h0', 'h1': x is a uint32.) (LAID: no walk: one application.) -/
theorem Yba.bits_Len32 (x : Int) (w : World) (h0 : 0 ≤ x) (h1 : x ≤ 4294967295) :
    Calls Yba.prog 35 #[.int .u32 x] w fun e w' => e = .returned (.int .i64 (Lib.bitLen x.toNat)) ∧ w' = w := Any.bits_Len32 Yba.lays128 x w h0 h1
def Yba.lays125_ren : Go.Shelf.Ren := ⟨fun | 125 => 22 | 128 => 35 | 129 => 36 | n => n, fun | 46 => 69 | 3 => 3 | 51 => 56 | 53 => 119 | 4 => 4 | 5 => 5 | 9 => 9 | n => n, fun | n => n⟩
theorem Yba.lays125 : Go.Proofs.Lays.n125 Yba.prog Yba.lays125_ren := {
  mixed := by kernel_rfl
  f125 := Yba.func22.trans (congrArg some (by kernel_rfl))
  f128 := Yba.func35.trans (congrArg some (by kernel_rfl))
  f129 := Yba.func36.trans (congrArg some (by kernel_rfl))
  t3 := Yba.underlying3
  a3 := Yba.isAgg3
  z3 := Yba.sizeOf3
  v3 := Yba.zeroValue3
  t4 := Yba.underlying4
  a4 := Yba.isAgg4
  z4 := Yba.sizeOf4
  v4 := Yba.zeroValue4
  t5 := Yba.underlying5
  a5 := Yba.isAgg5
  z5 := Yba.sizeOf5
  v5 := Yba.zeroValue5
  t9 := Yba.underlying9
  a9 := Yba.isAgg9
  z9 := Yba.sizeOf9
  v9 := Yba.zeroValue9
  t46 := Yba.underlying69
  a46 := Yba.isAgg69
  z46 := Yba.sizeOf69
  v46 := Yba.zeroValue69
  t51 := Yba.underlying56
  a51 := Yba.isAgg56
  z51 := Yba.sizeOf56
  v51 := Yba.zeroValue56
  t53 := Yba.underlying119
  a53 := Yba.isAgg119
  z53 := Yba.sizeOf119
  v53 := Yba.zeroValue119 }
/-- bits.Len: "Len returns the minimum number of bits required to represent x; the result is 0 for x == 0.": IT RETURNS 'Lib.bitLen x'; the world is as it was. (A uint has 64 bits in the model.) ITS CALLEE bits.Len64 IS MET BY ITS OWN CONTRACT OFF THE SHELF (lay that first). (LAID: no walk: one application.) -/
theorem Yba.bits_Len (x : Int) (w : World) (h0 : 0 ≤ x) (h1 : x ≤ 18446744073709551615) :
    Calls Yba.prog 22 #[.int .u64 x] w fun e w' => e = .returned (.int .i64 (Lib.bitLen x.toNat)) ∧ w' = w := Any.bits_Len Yba.lays125 x w h0 h1
def Yba.lays129_ren : Go.Shelf.Ren := ⟨fun | 129 => 36 | n => n, fun | 53 => 119 | 3 => 3 | 4 => 4 | 46 => 69 | 5 => 5 | 9 => 9 | n => n, fun | n => n⟩
theorem Yba.lays129 : Go.Proofs.Lays.n129 Yba.prog Yba.lays129_ren := {
  mixed := by kernel_rfl
  f129 := Yba.func36.trans (congrArg some (by kernel_rfl))
  t3 := Yba.underlying3
  a3 := Yba.isAgg3
  z3 := Yba.sizeOf3
  v3 := Yba.zeroValue3
  t4 := Yba.underlying4
  a4 := Yba.isAgg4
  z4 := Yba.sizeOf4
  v4 := Yba.zeroValue4
  t5 := Yba.underlying5
  a5 := Yba.isAgg5
  z5 := Yba.sizeOf5
  v5 := Yba.zeroValue5
  t9 := Yba.underlying9
  a9 := Yba.isAgg9
  z9 := Yba.sizeOf9
  v9 := Yba.zeroValue9
  t46 := Yba.underlying69
  a46 := Yba.isAgg69
  z46 := Yba.sizeOf69
  v46 := Yba.zeroValue69
  t53 := Yba.underlying119
  a53 := Yba.isAgg119
  z53 := Yba.sizeOf119
  v53 := Yba.zeroValue119 }
/-- bits.Len64: "Len64 returns the minimum number of bits required to represent x; the result is 0 for x == 0.": IT RETURNS 'Lib.bitLen x'; the world is as it was. ('h0', 'h1': x is a uint64.) (LAID: no walk: one application.) -/
theorem Yba.bits_Len64 (x : Int) (w : World) (h0 : 0 ≤ x) (h1 : x ≤ 18446744073709551615) :
    Calls Yba.prog 36 #[.int .u64 x] w fun e w' => e = .returned (.int .i64 (Lib.bitLen x.toNat)) ∧ w' = w := Any.bits_Len64 Yba.lays129 x w h0 h1
def Yba.lays189_ren : Go.Shelf.Ren := ⟨fun | 189 => 12 | 125 => 22 | 257 => 21 | 128 => 35 | 129 => 36 | 294 => 26 | 295 => 27 | 296 => 28 | 297 => 29 | 298 => 30 | 299 => 31 | 216 => 32 | 300 => 33 | 301 => 34 | 328 => 39 | 329 => 40 | 330 => 41 | 331 => 42 | 332 => 43 | 215 => 44 | 343 => 48 | n => n, fun | 28 => 34 | 3 => 3 | 46 => 69 | 0 => 0 | 51 => 56 | 53 => 119 | 4 => 4 | 183 => 110 | 182 => 109 | 131 => 115 | 5 => 5 | 9 => 9 | 218 => 123 | 222 => 127 | 228 => 131 | 229 => 132 | n => n, fun | n => n⟩
theorem Yba.lays189 : Go.Proofs.Lays.n189 Yba.prog Yba.lays189_ren := {
  mixed := by kernel_rfl
  f125 := Yba.func22.trans (congrArg some (by kernel_rfl))
  f128 := Yba.func35.trans (congrArg some (by kernel_rfl))
  f129 := Yba.func36.trans (congrArg some (by kernel_rfl))
  f189 := Yba.func12.trans (congrArg some (by kernel_rfl))
  f215 := Yba.func44.trans (congrArg some (by kernel_rfl))
  f216 := Yba.func32.trans (congrArg some (by kernel_rfl))
  f257 := Yba.func21.trans (congrArg some (by kernel_rfl))
  f294 := Yba.func26.trans (congrArg some (by kernel_rfl))
  f295 := Yba.func27.trans (congrArg some (by kernel_rfl))
  f296 := Yba.func28.trans (congrArg some (by kernel_rfl))
  f297 := Yba.func29.trans (congrArg some (by kernel_rfl))
  f298 := Yba.func30.trans (congrArg some (by kernel_rfl))
  f299 := Yba.func31.trans (congrArg some (by kernel_rfl))
  f300 := Yba.func33.trans (congrArg some (by kernel_rfl))
  f301 := Yba.func34.trans (congrArg some (by kernel_rfl))
  f328 := Yba.func39.trans (congrArg some (by kernel_rfl))
  f329 := Yba.func40.trans (congrArg some (by kernel_rfl))
  f330 := Yba.func41.trans (congrArg some (by kernel_rfl))
  f331 := Yba.func42.trans (congrArg some (by kernel_rfl))
  f332 := Yba.func43.trans (congrArg some (by kernel_rfl))
  f343 := Yba.func48.trans (congrArg some (by kernel_rfl))
  t0 := Yba.underlying0
  a0 := Yba.isAgg0
  z0 := Yba.sizeOf0
  v0 := Yba.zeroValue0
  t3 := Yba.underlying3
  a3 := Yba.isAgg3
  z3 := Yba.sizeOf3
  v3 := Yba.zeroValue3
  t4 := Yba.underlying4
  a4 := Yba.isAgg4
  z4 := Yba.sizeOf4
  v4 := Yba.zeroValue4
  t5 := Yba.underlying5
  a5 := Yba.isAgg5
  z5 := Yba.sizeOf5
  v5 := Yba.zeroValue5
  t9 := Yba.underlying9
  a9 := Yba.isAgg9
  z9 := Yba.sizeOf9
  v9 := Yba.zeroValue9
  t28 := Yba.underlying34
  a28 := Yba.isAgg34
  z28 := Yba.sizeOf34
  v28 := Yba.zeroValue34
  t46 := Yba.underlying69
  a46 := Yba.isAgg69
  z46 := Yba.sizeOf69
  v46 := Yba.zeroValue69
  t51 := Yba.underlying56
  a51 := Yba.isAgg56
  z51 := Yba.sizeOf56
  v51 := Yba.zeroValue56
  t53 := Yba.underlying119
  a53 := Yba.isAgg119
  z53 := Yba.sizeOf119
  v53 := Yba.zeroValue119
  t131 := Yba.underlying115
  a131 := Yba.isAgg115
  z131 := Yba.sizeOf115
  v131 := Yba.zeroValue115
  t182 := Yba.underlying109
  a182 := Yba.isAgg109
  z182 := Yba.sizeOf109
  v182 := Yba.zeroValue109
  t183 := Yba.underlying110
  a183 := Yba.isAgg110
  z183 := Yba.sizeOf110
  v183 := Yba.zeroValue110
  t218 := Yba.underlying123
  a218 := Yba.isAgg123
  z218 := Yba.sizeOf123
  v218 := Yba.zeroValue123
  t222 := Yba.underlying127
  a222 := Yba.isAgg127
  z222 := Yba.sizeOf127
  v222 := Yba.zeroValue127
  t228 := Yba.underlying131
  a228 := Yba.isAgg131
  z228 := Yba.sizeOf131
  v228 := Yba.zeroValue131
  t229 := Yba.underlying132
  a229 := Yba.isAgg132
  z229 := Yba.sizeOf132
  v229 := Yba.zeroValue132 }
open Go.Sort Go.RowKit in
theorem Yba.slices_Sort_int (blk off cap : Nat) (zs : List Int) (w : World) (hH : Holds (Value.int .i64) w blk off zs.toArray) (hblk : blk < w.heap.size) (hsz : zs.length < 4611686018427387904) :
    Calls Yba.prog 12 #[.slice (some ⟨blk, off, none⟩) zs.length cap] w fun e w' =>
      e = .returned (.tuple #[]) ∧ ∃ n os, w' = grow (putRow (Value.int .i64) (Sort.ahead w n) blk off (zs.mergeSort fun x y => decide (x ≤ y)).toArray) os := Any.slices_Sort_int Yba.lays189 blk off cap zs w hH hblk hsz
def Yba.lays111_ren : Go.Shelf.Ren := ⟨fun | 111 => 13 | n => n, fun | 28 => 34 | 3 => 3 | 4 => 4 | 0 => 0 | n => n, fun | n => n⟩
theorem Yba.lays111 : Go.Proofs.Lays.n111 Yba.prog Yba.lays111_ren := {
  mixed := by kernel_rfl
  f111 := Yba.func13.trans (congrArg some (by kernel_rfl))
  t0 := Yba.underlying0
  a0 := Yba.isAgg0
  z0 := Yba.sizeOf0
  v0 := Yba.zeroValue0
  t3 := Yba.underlying3
  a3 := Yba.isAgg3
  z3 := Yba.sizeOf3
  v3 := Yba.zeroValue3
  t4 := Yba.underlying4
  a4 := Yba.isAgg4
  z4 := Yba.sizeOf4
  v4 := Yba.zeroValue4
  t28 := Yba.underlying34
  a28 := Yba.isAgg34
  z28 := Yba.sizeOf34
  v28 := Yba.zeroValue34 }
open Go.RowKit Go.Lib in
/-- slices.Equal at []int: "Equal reports whether two slices are equal: the same length and all elements equal. If the lengths are different, Equal returns false. Otherwise, the elements are compared in increasing index order, and the comparison stops at the first unequal pair. Empty and nil slices are considered equal.": IT RETURNS WHETHER THE TWO LISTS OF ELEMENTS ARE ONE; the world is as it was but for the count of draws (the test 's1[i] != s2[i]' has two reads, whose order the model draws, once a round). 'xs', 'ys': what the cells behind the two addresses hold (the spare capacity too, if you have it); 'xs.take n', 'ys.take m': the elements. THE TWO SLICES MAY OVERLAP. (LAID: no walk: one application.) -/
theorem Yba.slices_Equal_int (b1 o1 n c b2 o2 m d : Nat) (xs ys : List Int) (w : World) (hx : n ≤ xs.length) (hy : m ≤ ys.length) (hbig : n ≤ 9223372036854775807) (hbig2 : m ≤ 9223372036854775807) (hc1 : ∀ j, j < xs.length → w.cell? ⟨b1, o1 + j, none⟩ = some (.int .i64 (xs.getD j 0))) (hc2 : ∀ j, j < ys.length → w.cell? ⟨b2, o2 + j, none⟩ = some (.int .i64 (ys.getD j 0))) :
    Calls Yba.prog 13 #[.slice (some ⟨b1, o1, none⟩) n c, .slice (some ⟨b2, o2, none⟩) m d] w fun e w' => e = .returned (.bool (xs.take n == ys.take m)) ∧ ∃ q, w' = w.drewN q := Any.slices_Equal_int Yba.lays111 b1 o1 n c b2 o2 m d xs ys w hx hy hbig hbig2 hc1 hc2
open Go.RowKit Go.Lib in
/-- The same where the first is of length 0 (a nil one too): no cell is asked for. (LAID: no walk: one application.) -/
theorem Yba.slices_Equal_int_empty (a1 a2 : Option Addr) (c m d : Nat) (w : World) (hbig2 : m ≤ 9223372036854775807) :
    Calls Yba.prog 13 #[.slice a1 0 c, .slice a2 m d] w fun e w' => e = .returned (.bool (decide (m = 0))) ∧ w' = w := Any.slices_Equal_int_empty Yba.lays111 a1 a2 c m d w hbig2
def Yba.laysNm237_ren : Go.Shelf.Ren := ⟨fun | 37 => 44 | n => n, fun | 3 => 3 | 4 => 4 | n => n, fun | n => n⟩
theorem Yba.laysNm237 : Go.Proofs.Lays2.n37 Yba.prog Yba.laysNm237_ren := {
  mixed := by kernel_rfl
  f37 := Yba.func44.trans (congrArg some (by kernel_rfl))
  t3 := Yba.underlying3
  a3 := Yba.isAgg3
  z3 := Yba.sizeOf3
  v3 := Yba.zeroValue3
  t4 := Yba.underlying4
  a4 := Yba.isAgg4
  z4 := Yba.sizeOf4
  v4 := Yba.zeroValue4 }
open Go.RowKit Go.Lib in
/-- cmp.isNaN[int]: 'x != x': false. (LAID: no walk: one application.) -/
theorem Yba.cmp_isNaN_int2 (x : Int) (w : World) :
    Calls Yba.prog 44 #[.int .i64 x] w fun e w' => e = .returned (.bool false) ∧ w' = w := Any.cmp_isNaN_int2 Yba.laysNm237 x w
def Yba.laysNm231_ren : Go.Shelf.Ren := ⟨fun | 31 => 32 | 37 => 44 | n => n, fun | 3 => 3 | 4 => 4 | n => n, fun | n => n⟩
theorem Yba.laysNm231 : Go.Proofs.Lays2.n31 Yba.prog Yba.laysNm231_ren := {
  mixed := by kernel_rfl
  f31 := Yba.func32.trans (congrArg some (by kernel_rfl))
  f37 := Yba.func44.trans (congrArg some (by kernel_rfl))
  t3 := Yba.underlying3
  a3 := Yba.isAgg3
  z3 := Yba.sizeOf3
  v3 := Yba.zeroValue3
  t4 := Yba.underlying4
  a4 := Yba.isAgg4
  z4 := Yba.sizeOf4
  v4 := Yba.zeroValue4 }
open Go.RowKit Go.Lib in
/-- cmp.Less[int]: "Less reports whether x is less than y.": 'x < y'; the world is as it was. (LAID: no walk: one application.) -/
theorem Yba.cmp_Less_int2 (x y : Int) (w : World) :
    Calls Yba.prog 32 #[.int .i64 x, .int .i64 y] w fun e w' => e = .returned (.bool (decide (x < y))) ∧ w' = w := Any.cmp_Less_int2 Yba.laysNm231 x y w
open Go.RowKit Go.Sort in
/-- .. and plain. (LAID: no walk: one application.) -/
theorem Yba.slices_Sort_int_none (p : Option Addr) (cap : Nat) (w : World) :
    Calls Yba.prog 12 #[.slice p 0 cap] w fun e w' => e = .returned (.tuple #[]) ∧ w' = w := Any.slices_Sort_int_none Yba.lays189 p cap w
end Go.Proofs
