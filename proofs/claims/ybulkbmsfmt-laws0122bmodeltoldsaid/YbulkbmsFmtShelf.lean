/-
  Laid by the kit's lay-shelf.mjs and lay-plain.mjs at this program: the contracts of slices.Sort and slices.BinarySearch at int and string.
-/
import Derived.Shelf.Sort.Plain
import Derived.Ground.Names2Prog
import Derived.Shelf.Slices.SearchI
import Derived.Shelf.Slices.In.SortNone
import Derived.Shelf.Slices.Empties
import Derived.Test.YbulkbmsFmtProg
namespace Go.Proofs
open Go.Shelf
def Ybaf.lays189_ren : Go.Shelf.Ren := ⟨fun | 189 => 15 | 125 => 27 | 257 => 26 | 128 => 40 | 129 => 41 | 294 => 31 | 295 => 32 | 296 => 33 | 297 => 34 | 298 => 35 | 299 => 36 | 216 => 37 | 300 => 38 | 301 => 39 | 328 => 52 | 329 => 53 | 330 => 54 | 331 => 55 | 332 => 56 | 215 => 57 | 343 => 63 | n => n, fun | 28 => 23 | 3 => 3 | 46 => 67 | 0 => 0 | 51 => 81 | 53 => 83 | 4 => 4 | 183 => 75 | 182 => 74 | 131 => 54 | 5 => 5 | 9 => 9 | 218 => 91 | 222 => 95 | 228 => 100 | 229 => 101 | n => n, fun | n => n⟩
theorem Ybaf.lays189 : Go.Proofs.Lays.n189 Ybaf.prog Ybaf.lays189_ren := {
  mixed := by kernel_rfl
  f125 := Ybaf.func27.trans (congrArg some (by kernel_rfl))
  f128 := Ybaf.func40.trans (congrArg some (by kernel_rfl))
  f129 := Ybaf.func41.trans (congrArg some (by kernel_rfl))
  f189 := Ybaf.func15.trans (congrArg some (by kernel_rfl))
  f215 := Ybaf.func57.trans (congrArg some (by kernel_rfl))
  f216 := Ybaf.func37.trans (congrArg some (by kernel_rfl))
  f257 := Ybaf.func26.trans (congrArg some (by kernel_rfl))
  f294 := Ybaf.func31.trans (congrArg some (by kernel_rfl))
  f295 := Ybaf.func32.trans (congrArg some (by kernel_rfl))
  f296 := Ybaf.func33.trans (congrArg some (by kernel_rfl))
  f297 := Ybaf.func34.trans (congrArg some (by kernel_rfl))
  f298 := Ybaf.func35.trans (congrArg some (by kernel_rfl))
  f299 := Ybaf.func36.trans (congrArg some (by kernel_rfl))
  f300 := Ybaf.func38.trans (congrArg some (by kernel_rfl))
  f301 := Ybaf.func39.trans (congrArg some (by kernel_rfl))
  f328 := Ybaf.func52.trans (congrArg some (by kernel_rfl))
  f329 := Ybaf.func53.trans (congrArg some (by kernel_rfl))
  f330 := Ybaf.func54.trans (congrArg some (by kernel_rfl))
  f331 := Ybaf.func55.trans (congrArg some (by kernel_rfl))
  f332 := Ybaf.func56.trans (congrArg some (by kernel_rfl))
  f343 := Ybaf.func63.trans (congrArg some (by kernel_rfl))
  t0 := Ybaf.underlying0
  a0 := Ybaf.isAgg0
  z0 := Ybaf.sizeOf0
  v0 := Ybaf.zeroValue0
  t3 := Ybaf.underlying3
  a3 := Ybaf.isAgg3
  z3 := Ybaf.sizeOf3
  v3 := Ybaf.zeroValue3
  t4 := Ybaf.underlying4
  a4 := Ybaf.isAgg4
  z4 := Ybaf.sizeOf4
  v4 := Ybaf.zeroValue4
  t5 := Ybaf.underlying5
  a5 := Ybaf.isAgg5
  z5 := Ybaf.sizeOf5
  v5 := Ybaf.zeroValue5
  t9 := Ybaf.underlying9
  a9 := Ybaf.isAgg9
  z9 := Ybaf.sizeOf9
  v9 := Ybaf.zeroValue9
  t28 := Ybaf.underlying23
  a28 := Ybaf.isAgg23
  z28 := Ybaf.sizeOf23
  v28 := Ybaf.zeroValue23
  t46 := Ybaf.underlying67
  a46 := Ybaf.isAgg67
  z46 := Ybaf.sizeOf67
  v46 := Ybaf.zeroValue67
  t51 := Ybaf.underlying81
  a51 := Ybaf.isAgg81
  z51 := Ybaf.sizeOf81
  v51 := Ybaf.zeroValue81
  t53 := Ybaf.underlying83
  a53 := Ybaf.isAgg83
  z53 := Ybaf.sizeOf83
  v53 := Ybaf.zeroValue83
  t131 := Ybaf.underlying54
  a131 := Ybaf.isAgg54
  z131 := Ybaf.sizeOf54
  v131 := Ybaf.zeroValue54
  t182 := Ybaf.underlying74
  a182 := Ybaf.isAgg74
  z182 := Ybaf.sizeOf74
  v182 := Ybaf.zeroValue74
  t183 := Ybaf.underlying75
  a183 := Ybaf.isAgg75
  z183 := Ybaf.sizeOf75
  v183 := Ybaf.zeroValue75
  t218 := Ybaf.underlying91
  a218 := Ybaf.isAgg91
  z218 := Ybaf.sizeOf91
  v218 := Ybaf.zeroValue91
  t222 := Ybaf.underlying95
  a222 := Ybaf.isAgg95
  z222 := Ybaf.sizeOf95
  v222 := Ybaf.zeroValue95
  t228 := Ybaf.underlying100
  a228 := Ybaf.isAgg100
  z228 := Ybaf.sizeOf100
  v228 := Ybaf.zeroValue100
  t229 := Ybaf.underlying101
  a229 := Ybaf.isAgg101
  z229 := Ybaf.sizeOf101
  v229 := Ybaf.zeroValue101 }
open Go.Sort Go.RowKit in
theorem Ybaf.slices_Sort_int (blk off cap : Nat) (zs : List Int) (w : World) (hH : Holds (Value.int .i64) w blk off zs.toArray) (hblk : blk < w.heap.size) (hsz : zs.length < 4611686018427387904) :
    Calls Ybaf.prog 15 #[.slice (some ⟨blk, off, none⟩) zs.length cap] w fun e w' =>
      e = .returned (.tuple #[]) ∧ ∃ n os, w' = grow (putRow (Value.int .i64) (Sort.ahead w n) blk off (zs.mergeSort fun x y => decide (x ≤ y)).toArray) os := Any.slices_Sort_int Ybaf.lays189 blk off cap zs w hH hblk hsz
def Ybaf.lays190_ren : Go.Shelf.Ren := ⟨fun | 190 => 24 | 125 => 27 | 258 => 30 | 128 => 40 | 129 => 41 | 302 => 43 | 303 => 44 | 304 => 45 | 305 => 46 | 306 => 47 | 307 => 48 | 308 => 49 | 309 => 50 | 310 => 51 | 333 => 59 | 329 => 53 | 330 => 54 | 334 => 60 | 335 => 61 | 336 => 62 | 344 => 64 | n => n, fun | 31 => 24 | 9 => 9 | 3 => 3 | 46 => 67 | 0 => 0 | 51 => 81 | 53 => 83 | 4 => 4 | 183 => 75 | 182 => 74 | 131 => 54 | 5 => 5 | 218 => 91 | 222 => 95 | 228 => 100 | 229 => 101 | n => n, fun | n => n⟩
theorem Ybaf.lays190 : Go.Proofs.Lays.n190 Ybaf.prog Ybaf.lays190_ren := {
  mixed := by kernel_rfl
  f125 := Ybaf.func27.trans (congrArg some (by kernel_rfl))
  f128 := Ybaf.func40.trans (congrArg some (by kernel_rfl))
  f129 := Ybaf.func41.trans (congrArg some (by kernel_rfl))
  f190 := Ybaf.func24.trans (congrArg some (by kernel_rfl))
  f258 := Ybaf.func30.trans (congrArg some (by kernel_rfl))
  f302 := Ybaf.func43.trans (congrArg some (by kernel_rfl))
  f303 := Ybaf.func44.trans (congrArg some (by kernel_rfl))
  f304 := Ybaf.func45.trans (congrArg some (by kernel_rfl))
  f305 := Ybaf.func46.trans (congrArg some (by kernel_rfl))
  f306 := Ybaf.func47.trans (congrArg some (by kernel_rfl))
  f307 := Ybaf.func48.trans (congrArg some (by kernel_rfl))
  f308 := Ybaf.func49.trans (congrArg some (by kernel_rfl))
  f309 := Ybaf.func50.trans (congrArg some (by kernel_rfl))
  f310 := Ybaf.func51.trans (congrArg some (by kernel_rfl))
  f329 := Ybaf.func53.trans (congrArg some (by kernel_rfl))
  f330 := Ybaf.func54.trans (congrArg some (by kernel_rfl))
  f333 := Ybaf.func59.trans (congrArg some (by kernel_rfl))
  f334 := Ybaf.func60.trans (congrArg some (by kernel_rfl))
  f335 := Ybaf.func61.trans (congrArg some (by kernel_rfl))
  f336 := Ybaf.func62.trans (congrArg some (by kernel_rfl))
  f344 := Ybaf.func64.trans (congrArg some (by kernel_rfl))
  t0 := Ybaf.underlying0
  a0 := Ybaf.isAgg0
  z0 := Ybaf.sizeOf0
  v0 := Ybaf.zeroValue0
  t3 := Ybaf.underlying3
  a3 := Ybaf.isAgg3
  z3 := Ybaf.sizeOf3
  v3 := Ybaf.zeroValue3
  t4 := Ybaf.underlying4
  a4 := Ybaf.isAgg4
  z4 := Ybaf.sizeOf4
  v4 := Ybaf.zeroValue4
  t5 := Ybaf.underlying5
  a5 := Ybaf.isAgg5
  z5 := Ybaf.sizeOf5
  v5 := Ybaf.zeroValue5
  t9 := Ybaf.underlying9
  a9 := Ybaf.isAgg9
  z9 := Ybaf.sizeOf9
  v9 := Ybaf.zeroValue9
  t31 := Ybaf.underlying24
  a31 := Ybaf.isAgg24
  z31 := Ybaf.sizeOf24
  v31 := Ybaf.zeroValue24
  t46 := Ybaf.underlying67
  a46 := Ybaf.isAgg67
  z46 := Ybaf.sizeOf67
  v46 := Ybaf.zeroValue67
  t51 := Ybaf.underlying81
  a51 := Ybaf.isAgg81
  z51 := Ybaf.sizeOf81
  v51 := Ybaf.zeroValue81
  t53 := Ybaf.underlying83
  a53 := Ybaf.isAgg83
  z53 := Ybaf.sizeOf83
  v53 := Ybaf.zeroValue83
  t131 := Ybaf.underlying54
  a131 := Ybaf.isAgg54
  z131 := Ybaf.sizeOf54
  v131 := Ybaf.zeroValue54
  t182 := Ybaf.underlying74
  a182 := Ybaf.isAgg74
  z182 := Ybaf.sizeOf74
  v182 := Ybaf.zeroValue74
  t183 := Ybaf.underlying75
  a183 := Ybaf.isAgg75
  z183 := Ybaf.sizeOf75
  v183 := Ybaf.zeroValue75
  t218 := Ybaf.underlying91
  a218 := Ybaf.isAgg91
  z218 := Ybaf.sizeOf91
  v218 := Ybaf.zeroValue91
  t222 := Ybaf.underlying95
  a222 := Ybaf.isAgg95
  z222 := Ybaf.sizeOf95
  v222 := Ybaf.zeroValue95
  t228 := Ybaf.underlying100
  a228 := Ybaf.isAgg100
  z228 := Ybaf.sizeOf100
  v228 := Ybaf.zeroValue100
  t229 := Ybaf.underlying101
  a229 := Ybaf.isAgg101
  z229 := Ybaf.sizeOf101
  v229 := Ybaf.zeroValue101 }
open Go.Sort Go.RowKit in
theorem Ybaf.slices_Sort_string (blk off cap : Nat) (ss : List (List UInt8)) (w : World) (hH : Holds encStr w blk off ss.toArray) (hblk : blk < w.heap.size) (hsz : ss.length < 4611686018427387904) :
    Calls Ybaf.prog 24 #[.slice (some ⟨blk, off, none⟩) ss.length cap] w fun e w' =>
      e = .returned (.tuple #[]) ∧ ∃ n os, w' = grow (putRow encStr (Sort.ahead w n) blk off (ss.mergeSort fun x y => decide (x ≤ y)).toArray) os := Any.slices_Sort_string Ybaf.lays190 blk off cap ss w hH hblk hsz
def Ybaf.laysNm225_ren : Go.Shelf.Ren := ⟨fun | 25 => 42 | 31 => 37 | 32 => 58 | 37 => 57 | n => n, fun | 22 => 23 | 3 => 3 | 4 => 4 | 40 => 67 | 0 => 0 | n => n, fun | n => n⟩
theorem Ybaf.laysNm225 : Go.Proofs.Lays2.n25 Ybaf.prog Ybaf.laysNm225_ren := {
  mixed := by kernel_rfl
  f25 := Ybaf.func42.trans (congrArg some (by kernel_rfl))
  f31 := Ybaf.func37.trans (congrArg some (by kernel_rfl))
  f32 := Ybaf.func58.trans (congrArg some (by kernel_rfl))
  f37 := Ybaf.func57.trans (congrArg some (by kernel_rfl))
  t0 := Ybaf.underlying0
  a0 := Ybaf.isAgg0
  z0 := Ybaf.sizeOf0
  v0 := Ybaf.zeroValue0
  t3 := Ybaf.underlying3
  a3 := Ybaf.isAgg3
  z3 := Ybaf.sizeOf3
  v3 := Ybaf.zeroValue3
  t4 := Ybaf.underlying4
  a4 := Ybaf.isAgg4
  z4 := Ybaf.sizeOf4
  v4 := Ybaf.zeroValue4
  t22 := Ybaf.underlying23
  a22 := Ybaf.isAgg23
  z22 := Ybaf.sizeOf23
  v22 := Ybaf.zeroValue23
  t40 := Ybaf.underlying67
  a40 := Ybaf.isAgg67
  z40 := Ybaf.sizeOf67
  v40 := Ybaf.zeroValue67 }
open Go.RowKit Go.Lib in
theorem Ybaf.slices_BinarySearch_int (b off n c : Nat) (zs : List Int) (x : Int) (w : World) (hz : n ≤ zs.length) (hbig : n < 4611686018427387904) (hc : ∀ j, j < zs.length → w.cell? ⟨b, off + j, none⟩ = some (.int .i64 (zs.getD j 0))) (hs : (zs.take n).Pairwise (· ≤ ·)) :
    Calls Ybaf.prog 42 #[.slice (some ⟨b, off, none⟩) n c, .int .i64 x] w fun e w' => e = .returned (.tuple #[.int .i64 ((zs.take n).countP (· < x) : Nat), .bool ((zs.take n).contains x)]) ∧ ∃ q, w' = w.drewN q := Any.slices_BinarySearch_int Ybaf.laysNm225 b off n c zs x w hz hbig hc hs
open Go.RowKit Go.Sort in
theorem Ybaf.slices_Sort_string_none (p : Option Addr) (cap : Nat) (w : World) :
    Calls Ybaf.prog 24 #[.slice p 0 cap] w fun e w' => e = .returned (.tuple #[]) ∧ w' = w := Any.slices_Sort_string_none Ybaf.lays190 p cap w
open Go.RowKit Go.Sort in
theorem Ybaf.slices_Sort_int_none (p : Option Addr) (cap : Nat) (w : World) :
    Calls Ybaf.prog 15 #[.slice p 0 cap] w fun e w' => e = .returned (.tuple #[]) ∧ w' = w := Any.slices_Sort_int_none Ybaf.lays189 p cap w
open Go.RowKit Go.Lib in
theorem Ybaf.slices_BinarySearch_int_empty (a : Option Addr) (c : Nat) (x : Int) (w : World) :
    Calls Ybaf.prog 42 #[.slice a 0 c, .int .i64 x] w fun e w' => e = .returned (.tuple #[.int .i64 0, .bool false]) ∧ w' = w := Any.slices_BinarySearch_int_empty Ybaf.laysNm225 a c x w
end Go.Proofs
