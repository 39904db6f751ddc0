/- The library's sort at this program, out of the shelf: each is one application of a proved contract; the conditions are those in each statement. -/
import Derived.Shelf.SortM.Plain
import Derived.Shelf.SortM.SortNone
import Derived.Test.YtedkjbdkokdgdaaProg
namespace Go.Proofs
open Go.Shelf
def Try.laysSlM5_f30_ren : Go.Shelf.Ren := ⟨fun | 5 => 30 | 8 => 34 | 7 => 33 | 19 => 45 | 20 => 46 | 10 => 36 | 11 => 37 | 12 => 38 | 13 => 39 | 14 => 40 | 15 => 41 | 16 => 42 | 17 => 43 | 18 => 44 | 30 => 47 | 31 => 48 | 32 => 49 | 33 => 50 | 34 => 51 | 35 => 52 | 40 => 53 | n => n, fun | 23 => 22 | 25 => 2 | 3 => 3 | 32 => 76 | 22 => 22 | 0 => 0 | 44 => 87 | 46 => 89 | 4 => 4 | 36 => 80 | 35 => 79 | 41 => 51 | 5 => 5 | 9 => 9 | 53 => 90 | 57 => 94 | 63 => 96 | 64 => 97 | n => n, fun | n => n⟩
theorem Try.laysSlM5_f30 : Go.Proofs.SlLaysM.n5 Try.prog Try.laysSlM5_f30_ren := {
  mixed := by kernel_rfl
  f5 := ⟨Try.f30.name, by decide, Try.func30.trans (congrArg some (by kernel_rfl))⟩
  f7 := ⟨Try.f33.name, by decide, Try.func33.trans (congrArg some (by kernel_rfl))⟩
  f8 := Try.func34.trans (congrArg some (by kernel_rfl))
  f10 := ⟨Try.f36.name, by decide, Try.func36.trans (congrArg some (by kernel_rfl))⟩
  f11 := ⟨Try.f37.name, by decide, Try.func37.trans (congrArg some (by kernel_rfl))⟩
  f12 := ⟨Try.f38.name, by decide, Try.func38.trans (congrArg some (by kernel_rfl))⟩
  f13 := ⟨Try.f39.name, by decide, Try.func39.trans (congrArg some (by kernel_rfl))⟩
  f14 := ⟨Try.f40.name, by decide, Try.func40.trans (congrArg some (by kernel_rfl))⟩
  f15 := ⟨Try.f41.name, by decide, Try.func41.trans (congrArg some (by kernel_rfl))⟩
  f16 := ⟨Try.f42.name, by decide, Try.func42.trans (congrArg some (by kernel_rfl))⟩
  f17 := ⟨Try.f43.name, by decide, Try.func43.trans (congrArg some (by kernel_rfl))⟩
  f18 := ⟨Try.f44.name, by decide, Try.func44.trans (congrArg some (by kernel_rfl))⟩
  f19 := Try.func45.trans (congrArg some (by kernel_rfl))
  f20 := Try.func46.trans (congrArg some (by kernel_rfl))
  f30 := ⟨Try.f47.name, by decide, Try.func47.trans (congrArg some (by kernel_rfl))⟩
  f31 := Try.func48.trans (congrArg some (by kernel_rfl))
  f32 := Try.func49.trans (congrArg some (by kernel_rfl))
  f33 := ⟨Try.f50.name, by decide, Try.func50.trans (congrArg some (by kernel_rfl))⟩
  f34 := ⟨Try.f51.name, by decide, Try.func51.trans (congrArg some (by kernel_rfl))⟩
  f35 := ⟨Try.f52.name, by decide, Try.func52.trans (congrArg some (by kernel_rfl))⟩
  f40 := ⟨Try.f53.name, by decide, Try.func53.trans (congrArg some (by kernel_rfl))⟩
  t0 := Try.underlying0
  a0 := Try.isAgg0
  z0 := Try.sizeOf0
  v0 := Try.zeroValue0
  t3 := Try.underlying3
  a3 := Try.isAgg3
  z3 := Try.sizeOf3
  v3 := Try.zeroValue3
  t4 := Try.underlying4
  a4 := Try.isAgg4
  z4 := Try.sizeOf4
  v4 := Try.zeroValue4
  t5 := Try.underlying5
  a5 := Try.isAgg5
  z5 := Try.sizeOf5
  v5 := Try.zeroValue5
  t9 := Try.underlying9
  a9 := Try.isAgg9
  z9 := Try.sizeOf9
  v9 := Try.zeroValue9
  t22 := Try.underlying22
  a22 := Try.isAgg22
  z22 := Try.sizeOf22
  v22 := Try.zeroValue22
  t23 := Try.underlying22
  a23 := Try.isAgg22
  z23 := Try.sizeOf22
  v23 := Try.zeroValue22
  t25 := Try.underlying2
  a25 := Try.isAgg2
  z25 := Try.sizeOf2
  v25 := Try.zeroValue2
  t32 := Try.underlying76
  a32 := Try.isAgg76
  z32 := Try.sizeOf76
  v32 := Try.zeroValue76
  t35 := Try.underlying79
  a35 := Try.isAgg79
  z35 := Try.sizeOf79
  v35 := Try.zeroValue79
  t36 := Try.underlying80
  a36 := Try.isAgg80
  z36 := Try.sizeOf80
  v36 := Try.zeroValue80
  t41 := Try.underlying51
  a41 := Try.isAgg51
  z41 := Try.sizeOf51
  v41 := Try.zeroValue51
  t44 := Try.underlying87
  a44 := Try.isAgg87
  z44 := Try.sizeOf87
  v44 := Try.zeroValue87
  t46 := Try.underlying89
  a46 := Try.isAgg89
  z46 := Try.sizeOf89
  v46 := Try.zeroValue89
  t53 := Try.underlying90
  a53 := Try.isAgg90
  z53 := Try.sizeOf90
  v53 := Try.zeroValue90
  t57 := Try.underlying94
  a57 := Try.isAgg94
  z57 := Try.sizeOf94
  v57 := Try.zeroValue94
  t63 := Try.underlying96
  a63 := Try.isAgg96
  z63 := Try.sizeOf96
  v63 := Try.zeroValue96
  t64 := Try.underlying97
  a64 := Try.isAgg97
  z64 := Try.sizeOf97
  v64 := Try.zeroValue97 }
open Go.Sort Go.RowKit in
theorem Try.slices_Sort_int (blk off cap : Nat) (zs : List Int) (w : World) (hH : Holds (Value.int .i64) w blk off zs.toArray) (hblk : blk < w.heap.size) (hsz : zs.length < 4611686018427387904) :
    Calls Try.prog 30 #[.slice (some ⟨blk, off, none⟩) zs.length cap] w fun e w' =>
      e = .returned (.tuple #[]) ∧ ∃ n os, w' = grow (putRow (Value.int .i64) (Sort.ahead w n) blk off (zs.mergeSort fun x y => decide (x ≤ y)).toArray) os := AnyM.slices_Sort_int Try.laysSlM5_f30 blk off cap zs w hH hblk hsz
open Go.RowKit Go.Sort in
/-- .. and plain. (LAID AT THE INSTANCE 'slices.Sort[[]int64,int64]': no walk: one application.) -/
theorem Try.slices_Sort_int_none (p : Option Addr) (cap : Nat) (w : World) :
    Calls Try.prog 30 #[.slice p 0 cap] w fun e w' => e = .returned (.tuple #[]) ∧ w' = w := AnyM.slices_Sort_int_none Try.laysSlM5_f30 p cap w
end Go.Proofs
