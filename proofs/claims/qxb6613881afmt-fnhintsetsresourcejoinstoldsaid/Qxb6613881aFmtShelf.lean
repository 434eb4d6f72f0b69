/-
  numalign: library contracts laid at this dump (written by the shelf's tools lay-shelf and lay-plain).
-/
import Derived.Shelf.Small.Bits
import Derived.Shelf.Strconv.Itoa0
import Derived.Shelf.Sort.Plain
import Derived.Shelf.Bits.Mul64
import Derived.Ground.Names2Prog
import Derived.Shelf.Slices.SearchI
import Derived.Shelf.Slices.Empties
import Derived.Test.Qxb6613881aFmtProg
namespace Go.Proofs
open Go.Shelf
def Tryf.lays128_ren : Go.Shelf.Ren := ⟨fun | 128 => 64 | n => n, fun | 51 => 91 | 3 => 3 | 4 => 4 | 46 => 72 | 5 => 5 | 9 => 9 | n => n, fun | n => n⟩
theorem Tryf.lays128 : Go.Proofs.Lays.n128 Tryf.prog Tryf.lays128_ren := {
  mixed := by kernel_rfl
  f128 := Tryf.func64.trans (congrArg some (by kernel_rfl))
  t3 := Tryf.underlying3
  a3 := Tryf.isAgg3
  z3 := Tryf.sizeOf3
  v3 := Tryf.zeroValue3
  t4 := Tryf.underlying4
  a4 := Tryf.isAgg4
  z4 := Tryf.sizeOf4
  v4 := Tryf.zeroValue4
  t5 := Tryf.underlying5
  a5 := Tryf.isAgg5
  z5 := Tryf.sizeOf5
  v5 := Tryf.zeroValue5
  t9 := Tryf.underlying9
  a9 := Tryf.isAgg9
  z9 := Tryf.sizeOf9
  v9 := Tryf.zeroValue9
  t46 := Tryf.underlying72
  a46 := Tryf.isAgg72
  z46 := Tryf.sizeOf72
  v46 := Tryf.zeroValue72
  t51 := Tryf.underlying91
  a51 := Tryf.isAgg91
  z51 := Tryf.sizeOf91
  v51 := Tryf.zeroValue91 }
/-- bits.Len32: "Len32 returns the minimum number of bits required to represent x; the result is 0 for x == 0.": IT RETURNS 'Lib.bitLen x'; the world is as it was. ('h0', 'h1': x is a uint32.) (LAID: no walk: one application.) -/
theorem Tryf.bits_Len32 (x : Int) (w : World) (h0 : 0 ≤ x) (h1 : x ≤ 4294967295) :
    Calls Tryf.prog 64 #[.int .u32 x] w fun e w' => e = .returned (.int .i64 (Lib.bitLen x.toNat)) ∧ w' = w := Any.bits_Len32 Tryf.lays128 x w h0 h1
def Tryf.lays125_ren : Go.Shelf.Ren := ⟨fun | 125 => 47 | 128 => 64 | 129 => 65 | n => n, fun | 46 => 72 | 3 => 3 | 51 => 91 | 53 => 94 | 4 => 4 | 5 => 5 | 9 => 9 | n => n, fun | n => n⟩
theorem Tryf.lays125 : Go.Proofs.Lays.n125 Tryf.prog Tryf.lays125_ren := {
  mixed := by kernel_rfl
  f125 := Tryf.func47.trans (congrArg some (by kernel_rfl))
  f128 := Tryf.func64.trans (congrArg some (by kernel_rfl))
  f129 := Tryf.func65.trans (congrArg some (by kernel_rfl))
  t3 := Tryf.underlying3
  a3 := Tryf.isAgg3
  z3 := Tryf.sizeOf3
  v3 := Tryf.zeroValue3
  t4 := Tryf.underlying4
  a4 := Tryf.isAgg4
  z4 := Tryf.sizeOf4
  v4 := Tryf.zeroValue4
  t5 := Tryf.underlying5
  a5 := Tryf.isAgg5
  z5 := Tryf.sizeOf5
  v5 := Tryf.zeroValue5
  t9 := Tryf.underlying9
  a9 := Tryf.isAgg9
  z9 := Tryf.sizeOf9
  v9 := Tryf.zeroValue9
  t46 := Tryf.underlying72
  a46 := Tryf.isAgg72
  z46 := Tryf.sizeOf72
  v46 := Tryf.zeroValue72
  t51 := Tryf.underlying91
  a51 := Tryf.isAgg91
  z51 := Tryf.sizeOf91
  v51 := Tryf.zeroValue91
  t53 := Tryf.underlying94
  a53 := Tryf.isAgg94
  z53 := Tryf.sizeOf94
  v53 := Tryf.zeroValue94 }
/-- bits.Len: "Len returns the minimum number of bits required to represent x; the result is 0 for x == 0.": IT RETURNS 'Lib.bitLen x'; the world is as it was. (A uint has 64 bits in the model.) ITS CALLEE bits.Len64 IS MET BY ITS OWN CONTRACT OFF THE SHELF (lay that first). (LAID: no walk: one application.) -/
theorem Tryf.bits_Len (x : Int) (w : World) (h0 : 0 ≤ x) (h1 : x ≤ 18446744073709551615) :
    Calls Tryf.prog 47 #[.int .u64 x] w fun e w' => e = .returned (.int .i64 (Lib.bitLen x.toNat)) ∧ w' = w := Any.bits_Len Tryf.lays125 x w h0 h1
def Tryf.lays129_ren : Go.Shelf.Ren := ⟨fun | 129 => 65 | n => n, fun | 53 => 94 | 3 => 3 | 4 => 4 | 46 => 72 | 5 => 5 | 9 => 9 | n => n, fun | n => n⟩
theorem Tryf.lays129 : Go.Proofs.Lays.n129 Tryf.prog Tryf.lays129_ren := {
  mixed := by kernel_rfl
  f129 := Tryf.func65.trans (congrArg some (by kernel_rfl))
  t3 := Tryf.underlying3
  a3 := Tryf.isAgg3
  z3 := Tryf.sizeOf3
  v3 := Tryf.zeroValue3
  t4 := Tryf.underlying4
  a4 := Tryf.isAgg4
  z4 := Tryf.sizeOf4
  v4 := Tryf.zeroValue4
  t5 := Tryf.underlying5
  a5 := Tryf.isAgg5
  z5 := Tryf.sizeOf5
  v5 := Tryf.zeroValue5
  t9 := Tryf.underlying9
  a9 := Tryf.isAgg9
  z9 := Tryf.sizeOf9
  v9 := Tryf.zeroValue9
  t46 := Tryf.underlying72
  a46 := Tryf.isAgg72
  z46 := Tryf.sizeOf72
  v46 := Tryf.zeroValue72
  t53 := Tryf.underlying94
  a53 := Tryf.isAgg94
  z53 := Tryf.sizeOf94
  v53 := Tryf.zeroValue94 }
/-- bits.Len64: "Len64 returns the minimum number of bits required to represent x; the result is 0 for x == 0.": IT RETURNS 'Lib.bitLen x'; the world is as it was. ('h0', 'h1': x is a uint64.) (LAID: no walk: one application.) -/
theorem Tryf.bits_Len64 (x : Int) (w : World) (h0 : 0 ≤ x) (h1 : x ≤ 18446744073709551615) :
    Calls Tryf.prog 65 #[.int .u64 x] w fun e w' => e = .returned (.int .i64 (Lib.bitLen x.toNat)) ∧ w' = w := Any.bits_Len64 Tryf.lays129 x w h0 h1
def Tryf.lays189_ren : Go.Shelf.Ren := ⟨fun | 189 => 34 | 125 => 47 | 257 => 46 | 128 => 64 | 129 => 65 | 294 => 55 | 295 => 56 | 296 => 57 | 297 => 58 | 298 => 59 | 299 => 60 | 216 => 61 | 300 => 62 | 301 => 63 | 328 => 68 | 329 => 69 | 330 => 70 | 331 => 71 | 332 => 72 | 215 => 73 | 343 => 75 | n => n, fun | 28 => 22 | 3 => 3 | 46 => 72 | 0 => 0 | 51 => 91 | 53 => 94 | 4 => 4 | 183 => 105 | 182 => 104 | 131 => 110 | 5 => 5 | 9 => 9 | 218 => 115 | 222 => 119 | 228 => 122 | 229 => 123 | n => n, fun | n => n⟩
theorem Tryf.lays189 : Go.Proofs.Lays.n189 Tryf.prog Tryf.lays189_ren := {
  mixed := by kernel_rfl
  f125 := Tryf.func47.trans (congrArg some (by kernel_rfl))
  f128 := Tryf.func64.trans (congrArg some (by kernel_rfl))
  f129 := Tryf.func65.trans (congrArg some (by kernel_rfl))
  f189 := Tryf.func34.trans (congrArg some (by kernel_rfl))
  f215 := Tryf.func73.trans (congrArg some (by kernel_rfl))
  f216 := Tryf.func61.trans (congrArg some (by kernel_rfl))
  f257 := Tryf.func46.trans (congrArg some (by kernel_rfl))
  f294 := Tryf.func55.trans (congrArg some (by kernel_rfl))
  f295 := Tryf.func56.trans (congrArg some (by kernel_rfl))
  f296 := Tryf.func57.trans (congrArg some (by kernel_rfl))
  f297 := Tryf.func58.trans (congrArg some (by kernel_rfl))
  f298 := Tryf.func59.trans (congrArg some (by kernel_rfl))
  f299 := Tryf.func60.trans (congrArg some (by kernel_rfl))
  f300 := Tryf.func62.trans (congrArg some (by kernel_rfl))
  f301 := Tryf.func63.trans (congrArg some (by kernel_rfl))
  f328 := Tryf.func68.trans (congrArg some (by kernel_rfl))
  f329 := Tryf.func69.trans (congrArg some (by kernel_rfl))
  f330 := Tryf.func70.trans (congrArg some (by kernel_rfl))
  f331 := Tryf.func71.trans (congrArg some (by kernel_rfl))
  f332 := Tryf.func72.trans (congrArg some (by kernel_rfl))
  f343 := Tryf.func75.trans (congrArg some (by kernel_rfl))
  t0 := Tryf.underlying0
  a0 := Tryf.isAgg0
  z0 := Tryf.sizeOf0
  v0 := Tryf.zeroValue0
  t3 := Tryf.underlying3
  a3 := Tryf.isAgg3
  z3 := Tryf.sizeOf3
  v3 := Tryf.zeroValue3
  t4 := Tryf.underlying4
  a4 := Tryf.isAgg4
  z4 := Tryf.sizeOf4
  v4 := Tryf.zeroValue4
  t5 := Tryf.underlying5
  a5 := Tryf.isAgg5
  z5 := Tryf.sizeOf5
  v5 := Tryf.zeroValue5
  t9 := Tryf.underlying9
  a9 := Tryf.isAgg9
  z9 := Tryf.sizeOf9
  v9 := Tryf.zeroValue9
  t28 := Tryf.underlying22
  a28 := Tryf.isAgg22
  z28 := Tryf.sizeOf22
  v28 := Tryf.zeroValue22
  t46 := Tryf.underlying72
  a46 := Tryf.isAgg72
  z46 := Tryf.sizeOf72
  v46 := Tryf.zeroValue72
  t51 := Tryf.underlying91
  a51 := Tryf.isAgg91
  z51 := Tryf.sizeOf91
  v51 := Tryf.zeroValue91
  t53 := Tryf.underlying94
  a53 := Tryf.isAgg94
  z53 := Tryf.sizeOf94
  v53 := Tryf.zeroValue94
  t131 := Tryf.underlying110
  a131 := Tryf.isAgg110
  z131 := Tryf.sizeOf110
  v131 := Tryf.zeroValue110
  t182 := Tryf.underlying104
  a182 := Tryf.isAgg104
  z182 := Tryf.sizeOf104
  v182 := Tryf.zeroValue104
  t183 := Tryf.underlying105
  a183 := Tryf.isAgg105
  z183 := Tryf.sizeOf105
  v183 := Tryf.zeroValue105
  t218 := Tryf.underlying115
  a218 := Tryf.isAgg115
  z218 := Tryf.sizeOf115
  v218 := Tryf.zeroValue115
  t222 := Tryf.underlying119
  a222 := Tryf.isAgg119
  z222 := Tryf.sizeOf119
  v222 := Tryf.zeroValue119
  t228 := Tryf.underlying122
  a228 := Tryf.isAgg122
  z228 := Tryf.sizeOf122
  v228 := Tryf.zeroValue122
  t229 := Tryf.underlying123
  a229 := Tryf.isAgg123
  z229 := Tryf.sizeOf123
  v229 := Tryf.zeroValue123 }
open Go.Sort Go.RowKit in
theorem Tryf.slices_Sort_int (blk off cap : Nat) (zs : List Int) (w : World) (hH : Holds (Value.int .i64) w blk off zs.toArray) (hblk : blk < w.heap.size) (hsz : zs.length < 4611686018427387904) :
    Calls Tryf.prog 34 #[.slice (some ⟨blk, off, none⟩) zs.length cap] w fun e w' =>
      e = .returned (.tuple #[]) ∧ ∃ n os, w' = grow (putRow (Value.int .i64) (Sort.ahead w n) blk off (zs.mergeSort fun x y => decide (x ≤ y)).toArray) os := Any.slices_Sort_int Tryf.lays189 blk off cap zs w hH hblk hsz
def Tryf.lays264_ren : Go.Shelf.Ren := ⟨fun | 264 => 49 | n => n, fun | 53 => 94 | 46 => 72 | n => n, fun | n => n⟩
theorem Tryf.lays264 : Go.Proofs.Lays.n264 Tryf.prog Tryf.lays264_ren := {
  mixed := by kernel_rfl
  f264 := Tryf.func49.trans (congrArg some (by kernel_rfl))
  t46 := Tryf.underlying72
  a46 := Tryf.isAgg72
  z46 := Tryf.sizeOf72
  v46 := Tryf.zeroValue72
  t53 := Tryf.underlying94
  a53 := Tryf.isAgg94
  z53 := Tryf.sizeOf94
  v53 := Tryf.zeroValue94 }
open Go.RowKit Go.Lib in
theorem Tryf.bits_Mul64 (x y : Nat) (hx : x < 18446744073709551616) (hy : y < 18446744073709551616) (w : World) :
    Calls Tryf.prog 49 #[.int .u64 x, .int .u64 y] w fun e w' => e = .returned (.tuple #[.int .u64 ((x * y / 18446744073709551616 : Nat) : Int), .int .u64 ((x * y % 18446744073709551616 : Nat) : Int)]) ∧ w' = w := Any.bits_Mul64 Tryf.lays264 x y hx hy w
def Tryf.lays212_ren : Go.Shelf.Ren := ⟨fun | 212 => 37 | 263 => 48 | 264 => 49 | n => n, fun | 46 => 72 | 51 => 91 | 146 => 92 | 53 => 94 | 148 => 95 | n => n, fun | n => n⟩
theorem Tryf.lays212 : Go.Proofs.Lays.n212 Tryf.prog Tryf.lays212_ren := {
  mixed := by kernel_rfl
  f212 := Tryf.func37.trans (congrArg some (by kernel_rfl))
  f263 := Tryf.func48.trans (congrArg some (by kernel_rfl))
  f264 := Tryf.func49.trans (congrArg some (by kernel_rfl))
  t46 := Tryf.underlying72
  a46 := Tryf.isAgg72
  z46 := Tryf.sizeOf72
  v46 := Tryf.zeroValue72
  t51 := Tryf.underlying91
  a51 := Tryf.isAgg91
  z51 := Tryf.sizeOf91
  v51 := Tryf.zeroValue91
  t53 := Tryf.underlying94
  a53 := Tryf.isAgg94
  z53 := Tryf.sizeOf94
  v53 := Tryf.zeroValue94
  t146 := Tryf.underlying92
  a146 := Tryf.isAgg92
  z146 := Tryf.sizeOf92
  v146 := Tryf.zeroValue92
  t148 := Tryf.underlying95
  a148 := Tryf.isAgg95
  z148 := Tryf.sizeOf95
  v148 := Tryf.zeroValue95 }
open Go.RowKit Go.Lib in
/-- math/bits.Mul: "Mul returns the full-width product of x and y": on a machine of 64 bits: Mul64's. (LAID: no walk: one application.) -/
theorem Tryf.bits_Mul (x y : Nat) (hx : x < 18446744073709551616) (hy : y < 18446744073709551616) (w : World) :
    Calls Tryf.prog 37 #[.int .u64 x, .int .u64 y] w fun e w' => e = .returned (.tuple #[.int .u64 ((x * y / 18446744073709551616 : Nat) : Int), .int .u64 ((x * y % 18446744073709551616 : Nat) : Int)]) ∧ w' = w := Any.bits_Mul Tryf.lays212 x y hx hy w
def Tryf.laysNm237_ren : Go.Shelf.Ren := ⟨fun | 37 => 73 | n => n, fun | 3 => 3 | 4 => 4 | n => n, fun | n => n⟩
theorem Tryf.laysNm237 : Go.Proofs.Lays2.n37 Tryf.prog Tryf.laysNm237_ren := {
  mixed := by kernel_rfl
  f37 := Tryf.func73.trans (congrArg some (by kernel_rfl))
  t3 := Tryf.underlying3
  a3 := Tryf.isAgg3
  z3 := Tryf.sizeOf3
  v3 := Tryf.zeroValue3
  t4 := Tryf.underlying4
  a4 := Tryf.isAgg4
  z4 := Tryf.sizeOf4
  v4 := Tryf.zeroValue4 }
open Go.RowKit Go.Lib in
/-- cmp.isNaN[int]: 'x != x': false. (LAID: no walk: one application.) -/
theorem Tryf.cmp_isNaN_int2 (x : Int) (w : World) :
    Calls Tryf.prog 73 #[.int .i64 x] w fun e w' => e = .returned (.bool false) ∧ w' = w := Any.cmp_isNaN_int2 Tryf.laysNm237 x w
def Tryf.laysNm232_ren : Go.Shelf.Ren := ⟨fun | 32 => 76 | n => n, fun | 3 => 3 | 4 => 4 | n => n, fun | n => n⟩
theorem Tryf.laysNm232 : Go.Proofs.Lays2.n32 Tryf.prog Tryf.laysNm232_ren := {
  mixed := by kernel_rfl
  f32 := Tryf.func76.trans (congrArg some (by kernel_rfl))
  t3 := Tryf.underlying3
  a3 := Tryf.isAgg3
  z3 := Tryf.sizeOf3
  v3 := Tryf.zeroValue3
  t4 := Tryf.underlying4
  a4 := Tryf.isAgg4
  z4 := Tryf.sizeOf4
  v4 := Tryf.zeroValue4 }
open Go.RowKit Go.Lib in
/-- slices.isNaN[int]: 'x != x': false. (LAID: no walk: one application.) -/
theorem Tryf.slices_isNaN_int2 (x : Int) (w : World) :
    Calls Tryf.prog 76 #[.int .i64 x] w fun e w' => e = .returned (.bool false) ∧ w' = w := Any.slices_isNaN_int2 Tryf.laysNm232 x w
def Tryf.laysNm231_ren : Go.Shelf.Ren := ⟨fun | 31 => 61 | 37 => 73 | n => n, fun | 3 => 3 | 4 => 4 | n => n, fun | n => n⟩
theorem Tryf.laysNm231 : Go.Proofs.Lays2.n31 Tryf.prog Tryf.laysNm231_ren := {
  mixed := by kernel_rfl
  f31 := Tryf.func61.trans (congrArg some (by kernel_rfl))
  f37 := Tryf.func73.trans (congrArg some (by kernel_rfl))
  t3 := Tryf.underlying3
  a3 := Tryf.isAgg3
  z3 := Tryf.sizeOf3
  v3 := Tryf.zeroValue3
  t4 := Tryf.underlying4
  a4 := Tryf.isAgg4
  z4 := Tryf.sizeOf4
  v4 := Tryf.zeroValue4 }
open Go.RowKit Go.Lib in
/-- cmp.Less[int]: "Less reports whether x is less than y.": 'x < y'; the world is as it was. (LAID: no walk: one application.) -/
theorem Tryf.cmp_Less_int2 (x y : Int) (w : World) :
    Calls Tryf.prog 61 #[.int .i64 x, .int .i64 y] w fun e w' => e = .returned (.bool (decide (x < y))) ∧ w' = w := Any.cmp_Less_int2 Tryf.laysNm231 x y w
def Tryf.laysNm225_ren : Go.Shelf.Ren := ⟨fun | 25 => 74 | 31 => 61 | 32 => 76 | 37 => 73 | n => n, fun | 22 => 22 | 3 => 3 | 4 => 4 | 40 => 72 | 0 => 0 | n => n, fun | n => n⟩
theorem Tryf.laysNm225 : Go.Proofs.Lays2.n25 Tryf.prog Tryf.laysNm225_ren := {
  mixed := by kernel_rfl
  f25 := Tryf.func74.trans (congrArg some (by kernel_rfl))
  f31 := Tryf.func61.trans (congrArg some (by kernel_rfl))
  f32 := Tryf.func76.trans (congrArg some (by kernel_rfl))
  f37 := Tryf.func73.trans (congrArg some (by kernel_rfl))
  t0 := Tryf.underlying0
  a0 := Tryf.isAgg0
  z0 := Tryf.sizeOf0
  v0 := Tryf.zeroValue0
  t3 := Tryf.underlying3
  a3 := Tryf.isAgg3
  z3 := Tryf.sizeOf3
  v3 := Tryf.zeroValue3
  t4 := Tryf.underlying4
  a4 := Tryf.isAgg4
  z4 := Tryf.sizeOf4
  v4 := Tryf.zeroValue4
  t22 := Tryf.underlying22
  a22 := Tryf.isAgg22
  z22 := Tryf.sizeOf22
  v22 := Tryf.zeroValue22
  t40 := Tryf.underlying72
  a40 := Tryf.isAgg72
  z40 := Tryf.sizeOf72
  v40 := Tryf.zeroValue72 }
open Go.RowKit Go.Lib in
/-- slices.BinarySearch at []int: "BinarySearch searches for target in a sorted slice and returns the earliest position where target is found, or the position where target would appear in the sort order; it also returns a bool saying whether the target is really found in the slice. The slice must be sorted in increasing order.": OF A SORTED SLICE IT RETURNS how many elements are less than the target, and whether the target is among the elements; the world is as it was but for the count of draws. 'zs': what the cells behind the slice's address hold; 'zs.take n': its elements. (Of a slice that is not sorted: no contract here.) (LAID: no walk: one application.) -/
theorem Tryf.slices_BinarySearch_int (b off n c : Nat) (zs : List Int) (x : Int) (w : World) (hz : n ≤ zs.length) (hbig : n < 4611686018427387904) (hc : ∀ j, j < zs.length → w.cell? ⟨b, off + j, none⟩ = some (.int .i64 (zs.getD j 0))) (hs : (zs.take n).Pairwise (· ≤ ·)) :
    Calls Tryf.prog 74 #[.slice (some ⟨b, off, none⟩) n c, .int .i64 x] w fun e w' => e = .returned (.tuple #[.int .i64 ((zs.take n).countP (· < x) : Nat), .bool ((zs.take n).contains x)]) ∧ ∃ q, w' = w.drewN q := Any.slices_BinarySearch_int Tryf.laysNm225 b off n c zs x w hz hbig hc hs
open Go.RowKit Go.Lib in
/-- slices.BinarySearch at []int of no element: position 0, not found; the world is as it was. (LAID: no walk: one application.) -/
theorem Tryf.slices_BinarySearch_int_empty (a : Option Addr) (c : Nat) (x : Int) (w : World) :
    Calls Tryf.prog 74 #[.slice a 0 c, .int .i64 x] w fun e w' => e = .returned (.tuple #[.int .i64 0, .bool false]) ∧ w' = w := Any.slices_BinarySearch_int_empty Tryf.laysNm225 a c x w
end Go.Proofs
