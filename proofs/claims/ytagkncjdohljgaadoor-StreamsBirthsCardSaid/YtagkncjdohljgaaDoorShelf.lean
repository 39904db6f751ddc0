/- The library's sort at this program, out of the shelf: each is one application of a proved contract; the conditions are those in each statement. -/
import Derived.Shelf.SortM.Plain
import Derived.Shelf.SortM.SortNone
import Derived.Test.YtagkncjdohljgaaDoorProg
namespace Go.Proofs
open Go.Shelf
def Tryd.laysSlM5_f38_ren : Go.Shelf.Ren := ⟨fun | 5 => 38 | 8 => 49 | 7 => 48 | 19 => 60 | 20 => 61 | 10 => 51 | 11 => 52 | 12 => 53 | 13 => 54 | 14 => 55 | 15 => 56 | 16 => 57 | 17 => 58 | 18 => 59 | 30 => 78 | 31 => 79 | 32 => 80 | 33 => 81 | 34 => 82 | 35 => 83 | 40 => 87 | n => n, fun | 23 => 28 | 25 => 2 | 3 => 3 | 32 => 84 | 22 => 28 | 0 => 0 | 44 => 101 | 46 => 103 | 4 => 4 | 36 => 93 | 35 => 92 | 41 => 98 | 5 => 5 | 9 => 9 | 53 => 104 | 57 => 108 | 63 => 110 | 64 => 111 | n => n, fun | n => n⟩
theorem Tryd.laysSlM5_f38 : Go.Proofs.SlLaysM.n5 Tryd.prog Tryd.laysSlM5_f38_ren := {
  mixed := by kernel_rfl
  f5 := ⟨Tryd.f38.name, by decide, Tryd.func38.trans (congrArg some (by kernel_rfl))⟩
  f7 := ⟨Tryd.f48.name, by decide, Tryd.func48.trans (congrArg some (by kernel_rfl))⟩
  f8 := Tryd.func49.trans (congrArg some (by kernel_rfl))
  f10 := ⟨Tryd.f51.name, by decide, Tryd.func51.trans (congrArg some (by kernel_rfl))⟩
  f11 := ⟨Tryd.f52.name, by decide, Tryd.func52.trans (congrArg some (by kernel_rfl))⟩
  f12 := ⟨Tryd.f53.name, by decide, Tryd.func53.trans (congrArg some (by kernel_rfl))⟩
  f13 := ⟨Tryd.f54.name, by decide, Tryd.func54.trans (congrArg some (by kernel_rfl))⟩
  f14 := ⟨Tryd.f55.name, by decide, Tryd.func55.trans (congrArg some (by kernel_rfl))⟩
  f15 := ⟨Tryd.f56.name, by decide, Tryd.func56.trans (congrArg some (by kernel_rfl))⟩
  f16 := ⟨Tryd.f57.name, by decide, Tryd.func57.trans (congrArg some (by kernel_rfl))⟩
  f17 := ⟨Tryd.f58.name, by decide, Tryd.func58.trans (congrArg some (by kernel_rfl))⟩
  f18 := ⟨Tryd.f59.name, by decide, Tryd.func59.trans (congrArg some (by kernel_rfl))⟩
  f19 := Tryd.func60.trans (congrArg some (by kernel_rfl))
  f20 := Tryd.func61.trans (congrArg some (by kernel_rfl))
  f30 := ⟨Tryd.f78.name, by decide, Tryd.func78.trans (congrArg some (by kernel_rfl))⟩
  f31 := Tryd.func79.trans (congrArg some (by kernel_rfl))
  f32 := Tryd.func80.trans (congrArg some (by kernel_rfl))
  f33 := ⟨Tryd.f81.name, by decide, Tryd.func81.trans (congrArg some (by kernel_rfl))⟩
  f34 := ⟨Tryd.f82.name, by decide, Tryd.func82.trans (congrArg some (by kernel_rfl))⟩
  f35 := ⟨Tryd.f83.name, by decide, Tryd.func83.trans (congrArg some (by kernel_rfl))⟩
  f40 := ⟨Tryd.f87.name, by decide, Tryd.func87.trans (congrArg some (by kernel_rfl))⟩
  t0 := Tryd.underlying0
  a0 := Tryd.isAgg0
  z0 := Tryd.sizeOf0
  v0 := Tryd.zeroValue0
  t3 := Tryd.underlying3
  a3 := Tryd.isAgg3
  z3 := Tryd.sizeOf3
  v3 := Tryd.zeroValue3
  t4 := Tryd.underlying4
  a4 := Tryd.isAgg4
  z4 := Tryd.sizeOf4
  v4 := Tryd.zeroValue4
  t5 := Tryd.underlying5
  a5 := Tryd.isAgg5
  z5 := Tryd.sizeOf5
  v5 := Tryd.zeroValue5
  t9 := Tryd.underlying9
  a9 := Tryd.isAgg9
  z9 := Tryd.sizeOf9
  v9 := Tryd.zeroValue9
  t22 := Tryd.underlying28
  a22 := Tryd.isAgg28
  z22 := Tryd.sizeOf28
  v22 := Tryd.zeroValue28
  t23 := Tryd.underlying28
  a23 := Tryd.isAgg28
  z23 := Tryd.sizeOf28
  v23 := Tryd.zeroValue28
  t25 := Tryd.underlying2
  a25 := Tryd.isAgg2
  z25 := Tryd.sizeOf2
  v25 := Tryd.zeroValue2
  t32 := Tryd.underlying84
  a32 := Tryd.isAgg84
  z32 := Tryd.sizeOf84
  v32 := Tryd.zeroValue84
  t35 := Tryd.underlying92
  a35 := Tryd.isAgg92
  z35 := Tryd.sizeOf92
  v35 := Tryd.zeroValue92
  t36 := Tryd.underlying93
  a36 := Tryd.isAgg93
  z36 := Tryd.sizeOf93
  v36 := Tryd.zeroValue93
  t41 := Tryd.underlying98
  a41 := Tryd.isAgg98
  z41 := Tryd.sizeOf98
  v41 := Tryd.zeroValue98
  t44 := Tryd.underlying101
  a44 := Tryd.isAgg101
  z44 := Tryd.sizeOf101
  v44 := Tryd.zeroValue101
  t46 := Tryd.underlying103
  a46 := Tryd.isAgg103
  z46 := Tryd.sizeOf103
  v46 := Tryd.zeroValue103
  t53 := Tryd.underlying104
  a53 := Tryd.isAgg104
  z53 := Tryd.sizeOf104
  v53 := Tryd.zeroValue104
  t57 := Tryd.underlying108
  a57 := Tryd.isAgg108
  z57 := Tryd.sizeOf108
  v57 := Tryd.zeroValue108
  t63 := Tryd.underlying110
  a63 := Tryd.isAgg110
  z63 := Tryd.sizeOf110
  v63 := Tryd.zeroValue110
  t64 := Tryd.underlying111
  a64 := Tryd.isAgg111
  z64 := Tryd.sizeOf111
  v64 := Tryd.zeroValue111 }
open Go.Sort Go.RowKit in
theorem Tryd.slices_Sort_int (blk off cap : Nat) (zs : List Int) (w : World) (hH : Holds (Value.int .i64) w blk off zs.toArray) (hblk : blk < w.heap.size) (hsz : zs.length < 4611686018427387904) :
    Calls Tryd.prog 38 #[.slice (some ⟨blk, off, none⟩) zs.length cap] w fun e w' =>
      e = .returned (.tuple #[]) ∧ ∃ n os, w' = grow (putRow (Value.int .i64) (Sort.ahead w n) blk off (zs.mergeSort fun x y => decide (x ≤ y)).toArray) os := AnyM.slices_Sort_int Tryd.laysSlM5_f38 blk off cap zs w hH hblk hsz
open Go.RowKit Go.Sort in
/-- .. and plain. (LAID AT THE INSTANCE 'slices.Sort[[]int64,int64]': no walk: one application.) -/
theorem Tryd.slices_Sort_int_none (p : Option Addr) (cap : Nat) (w : World) :
    Calls Tryd.prog 38 #[.slice p 0 cap] w fun e w' => e = .returned (.tuple #[]) ∧ w' = w := AnyM.slices_Sort_int_none Tryd.laysSlM5_f38 p cap w
end Go.Proofs
