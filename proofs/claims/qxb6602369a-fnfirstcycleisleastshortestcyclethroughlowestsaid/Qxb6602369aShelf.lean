import Derived.Shelf.Sort.Plain
import Derived.Shelf.Slices.Reverse
import Derived.Ground.Names2Prog
import Derived.Shelf.Slices.CompactI
import Derived.Shelf.Slices.In.SortNone
import Derived.Test.Qxb6602369aProg
namespace Go.Proofs.Qxb6602369a
open Go.Shelf
def Try.lays189_ren : Go.Shelf.Ren := ⟨fun | 189 => 33 | 125 => 43 | 257 => 42 | 128 => 56 | 129 => 57 | 294 => 47 | 295 => 48 | 296 => 49 | 297 => 50 | 298 => 51 | 299 => 52 | 216 => 53 | 300 => 54 | 301 => 55 | 328 => 58 | 329 => 59 | 330 => 60 | 331 => 61 | 332 => 62 | 215 => 63 | 343 => 64 | n => n, fun | 28 => 28 | 3 => 3 | 46 => 73 | 0 => 0 | 51 => 87 | 53 => 89 | 4 => 4 | 183 => 79 | 182 => 78 | 131 => 84 | 5 => 5 | 9 => 9 | 218 => 90 | 222 => 94 | 228 => 97 | 229 => 98 | n => n, fun | n => n⟩
theorem Try.lays189 : Go.Proofs.Lays.n189 Try.prog Try.lays189_ren := {
  mixed := by kernel_rfl
  f125 := Try.func43.trans (congrArg some (by kernel_rfl))
  f128 := Try.func56.trans (congrArg some (by kernel_rfl))
  f129 := Try.func57.trans (congrArg some (by kernel_rfl))
  f189 := Try.func33.trans (congrArg some (by kernel_rfl))
  f215 := Try.func63.trans (congrArg some (by kernel_rfl))
  f216 := Try.func53.trans (congrArg some (by kernel_rfl))
  f257 := Try.func42.trans (congrArg some (by kernel_rfl))
  f294 := Try.func47.trans (congrArg some (by kernel_rfl))
  f295 := Try.func48.trans (congrArg some (by kernel_rfl))
  f296 := Try.func49.trans (congrArg some (by kernel_rfl))
  f297 := Try.func50.trans (congrArg some (by kernel_rfl))
  f298 := Try.func51.trans (congrArg some (by kernel_rfl))
  f299 := Try.func52.trans (congrArg some (by kernel_rfl))
  f300 := Try.func54.trans (congrArg some (by kernel_rfl))
  f301 := Try.func55.trans (congrArg some (by kernel_rfl))
  f328 := Try.func58.trans (congrArg some (by kernel_rfl))
  f329 := Try.func59.trans (congrArg some (by kernel_rfl))
  f330 := Try.func60.trans (congrArg some (by kernel_rfl))
  f331 := Try.func61.trans (congrArg some (by kernel_rfl))
  f332 := Try.func62.trans (congrArg some (by kernel_rfl))
  f343 := Try.func64.trans (congrArg some (by kernel_rfl))
  t0 := Try.underlying0
  a0 := Try.isAgg0
  z0 := Try.sizeOf0
  v0 := Try.zeroValue0
  t3 := Try.underlying3
  a3 := Try.isAgg3
  z3 := Try.sizeOf3
  v3 := Try.zeroValue3
  t4 := Try.underlying4
  a4 := Try.isAgg4
  z4 := Try.sizeOf4
  v4 := Try.zeroValue4
  t5 := Try.underlying5
  a5 := Try.isAgg5
  z5 := Try.sizeOf5
  v5 := Try.zeroValue5
  t9 := Try.underlying9
  a9 := Try.isAgg9
  z9 := Try.sizeOf9
  v9 := Try.zeroValue9
  t28 := Try.underlying28
  a28 := Try.isAgg28
  z28 := Try.sizeOf28
  v28 := Try.zeroValue28
  t46 := Try.underlying73
  a46 := Try.isAgg73
  z46 := Try.sizeOf73
  v46 := Try.zeroValue73
  t51 := Try.underlying87
  a51 := Try.isAgg87
  z51 := Try.sizeOf87
  v51 := Try.zeroValue87
  t53 := Try.underlying89
  a53 := Try.isAgg89
  z53 := Try.sizeOf89
  v53 := Try.zeroValue89
  t131 := Try.underlying84
  a131 := Try.isAgg84
  z131 := Try.sizeOf84
  v131 := Try.zeroValue84
  t182 := Try.underlying78
  a182 := Try.isAgg78
  z182 := Try.sizeOf78
  v182 := Try.zeroValue78
  t183 := Try.underlying79
  a183 := Try.isAgg79
  z183 := Try.sizeOf79
  v183 := Try.zeroValue79
  t218 := Try.underlying90
  a218 := Try.isAgg90
  z218 := Try.sizeOf90
  v218 := Try.zeroValue90
  t222 := Try.underlying94
  a222 := Try.isAgg94
  z222 := Try.sizeOf94
  v222 := Try.zeroValue94
  t228 := Try.underlying97
  a228 := Try.isAgg97
  z228 := Try.sizeOf97
  v228 := Try.zeroValue97
  t229 := Try.underlying98
  a229 := Try.isAgg98
  z229 := Try.sizeOf98
  v229 := Try.zeroValue98 }
open Go.Sort Go.RowKit in
theorem Try.slices_Sort_int (blk off cap : Nat) (zs : List Int) (w : World) (hH : Holds (Value.int .i64) w blk off zs.toArray) (hblk : blk < w.heap.size) (hsz : zs.length < 4611686018427387904) :
    Calls Try.prog 33 #[.slice (some ⟨blk, off, none⟩) zs.length cap] w fun e w' =>
      e = .returned (.tuple #[]) ∧ ∃ n os, w' = grow (putRow (Value.int .i64) (Sort.ahead w n) blk off (zs.mergeSort fun x y => decide (x ≤ y)).toArray) os := Any.slices_Sort_int Try.lays189 blk off cap zs w hH hblk hsz
def Try.lays112_ren : Go.Shelf.Ren := ⟨fun | 112 => 36 | n => n, fun | 28 => 28 | 3 => 3 | 4 => 4 | 0 => 0 | n => n, fun | n => n⟩
theorem Try.lays112 : Go.Proofs.Lays.n112 Try.prog Try.lays112_ren := {
  mixed := by kernel_rfl
  f112 := Try.func36.trans (congrArg some (by kernel_rfl))
  t0 := Try.underlying0
  a0 := Try.isAgg0
  z0 := Try.sizeOf0
  v0 := Try.zeroValue0
  t3 := Try.underlying3
  a3 := Try.isAgg3
  z3 := Try.sizeOf3
  v3 := Try.zeroValue3
  t4 := Try.underlying4
  a4 := Try.isAgg4
  z4 := Try.sizeOf4
  v4 := Try.zeroValue4
  t28 := Try.underlying28
  a28 := Try.isAgg28
  z28 := Try.sizeOf28
  v28 := Try.zeroValue28 }
open Go.RowKit Go.Lib Go.Sort in
theorem Try.slices_Reverse_int_arr (blk off cap : Nat) (d : Array Int) (w : World) (hH : Holds encI w blk off d) (hsz : d.size ≤ 9223372036854775807) :
    Calls Try.prog 36 #[.slice (some ⟨blk, off, none⟩) d.size cap] w fun e w' => e = .returned (.tuple #[]) ∧ ∃ n, w' = putRow encI (Sort.ahead w n) blk off d.reverse := Any.slices_Reverse_int_arr Try.lays112 blk off cap d w hH hsz
open Go.RowKit Go.Lib Go.Sort in
theorem Try.slices_Reverse_int (blk off cap : Nat) (zs : List Int) (w : World) (hH : Holds (Value.int .i64) w blk off zs.toArray) (hsz : zs.length ≤ 9223372036854775807) :
    Calls Try.prog 36 #[.slice (some ⟨blk, off, none⟩) zs.length cap] w fun e w' => e = .returned (.tuple #[]) ∧ ∃ n, w' = putRow (Value.int .i64) (Sort.ahead w n) blk off zs.reverse.toArray := Any.slices_Reverse_int Try.lays112 blk off cap zs w hH hsz
open Go.RowKit Go.Lib Go.Sort in
theorem Try.slices_Reverse_int_empty (a : Option Addr) (cap : Nat) (w : World) :
    Calls Try.prog 36 #[.slice a 0 cap] w fun e w' => e = .returned (.tuple #[]) ∧ w' = w := Any.slices_Reverse_int_empty Try.lays112 a cap w
def Try.laysNm220_ren : Go.Shelf.Ren := ⟨fun | 20 => 34 | n => n, fun | 22 => 28 | 3 => 3 | 4 => 4 | 0 => 0 | n => n, fun | n => n⟩
theorem Try.laysNm220 : Go.Proofs.Lays2.n20 Try.prog Try.laysNm220_ren := {
  mixed := by kernel_rfl
  f20 := Try.func34.trans (congrArg some (by kernel_rfl))
  t0 := Try.underlying0
  a0 := Try.isAgg0
  z0 := Try.sizeOf0
  v0 := Try.zeroValue0
  t3 := Try.underlying3
  a3 := Try.isAgg3
  z3 := Try.sizeOf3
  v3 := Try.zeroValue3
  t4 := Try.underlying4
  a4 := Try.isAgg4
  z4 := Try.sizeOf4
  v4 := Try.zeroValue4
  t22 := Try.underlying28
  a22 := Try.isAgg28
  z22 := Try.sizeOf28
  v22 := Try.zeroValue28
  i3 := by kernel_rfl }
open Go.RowKit Go.Lib Go.Sort in
theorem Try.slices_Compact_int_arr (blk off cap : Nat) (d : Array Int) (w : World) (hH : Holds encI w blk off d) (hsz : d.size ≤ 9223372036854775807) (hcap : d.size ≤ cap) :
    Calls Try.prog 34 #[.slice (some ⟨blk, off, none⟩) d.size cap] w fun e w' => e = .returned (.slice (some ⟨blk, off, none⟩) (compactUpTo d d.size).length cap) ∧ ∃ q, w' = putRow encI (Sort.ahead w q) blk off (compactUpTo d d.size ++ List.replicate (d.size - (compactUpTo d d.size).length) 0).toArray := Any.slices_Compact_int_arr Try.laysNm220 blk off cap d w hH hsz hcap
open Go.RowKit Go.Lib Go.Sort in
theorem Try.slices_Compact_int (blk off cap : Nat) (zs : List Int) (w : World) (hH : Holds (Value.int .i64) w blk off zs.toArray) (hsz : zs.length ≤ 9223372036854775807) (hcap : zs.length ≤ cap) :
    Calls Try.prog 34 #[.slice (some ⟨blk, off, none⟩) zs.length cap] w fun e w' => e = .returned (.slice (some ⟨blk, off, none⟩) (Lib.compact zs).length cap) ∧ ∃ q, w' = putRow (Value.int .i64) (Sort.ahead w q) blk off (Lib.compact zs ++ List.replicate (zs.length - (Lib.compact zs).length) 0).toArray := Any.slices_Compact_int Try.laysNm220 blk off cap zs w hH hsz hcap
open Go.RowKit Go.Lib Go.Sort in
theorem Try.slices_Compact_int_empty (a : Option Addr) (cap : Nat) (w : World) :
    Calls Try.prog 34 #[.slice a 0 cap] w fun e w' => e = .returned (.slice a 0 cap) ∧ w' = w := Any.slices_Compact_int_empty Try.laysNm220 a cap w
open Go.RowKit Go.Sort in
theorem Try.slices_Sort_int_none (p : Option Addr) (cap : Nat) (w : World) :
    Calls Try.prog 33 #[.slice p 0 cap] w fun e w' => e = .returned (.tuple #[]) ∧ w' = w := Any.slices_Sort_int_none Try.lays189 p cap w
end Go.Proofs.Qxb6602369a
