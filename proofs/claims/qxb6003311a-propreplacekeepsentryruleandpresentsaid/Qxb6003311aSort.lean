/- slices.Sort's contract off the shelf, at this dump (written by the kit's lay-plain tool). -/
import Derived.Shelf.SlGeneric
import Derived.Ground.SlgmProg
import Derived.Shelf.SortM.Plain
import Derived.Shelf.SortM.SortNone
import Derived.Test.Qxb6003311aProg
namespace Go.Proofs
open Go.Shelf
def Try.sort5_ren : Go.Shelf.Ren := ⟨fun | 5 => 12 | 8 => 22 | 7 => 21 | 19 => 37 | 20 => 38 | 10 => 29 | 11 => 30 | 12 => 31 | 13 => 32 | 14 => 33 | 15 => 34 | 16 => 23 | 17 => 35 | 18 => 36 | 30 => 43 | 31 => 44 | 32 => 45 | 33 => 46 | 34 => 47 | 35 => 39 | 40 => 51 | n => n, fun | 23 => 27 | 25 => 2 | 3 => 3 | 32 => 62 | 22 => 27 | 0 => 0 | 44 => 83 | 46 => 49 | 4 => 4 | 36 => 77 | 35 => 76 | 41 => 44 | 5 => 5 | 9 => 9 | 53 => 86 | 57 => 90 | 63 => 94 | 64 => 95 | n => n, fun | n => n⟩
theorem Try.sort5 : Go.Proofs.SlLaysM.n5 Try.prog Try.sort5_ren := {
  mixed := by kernel_rfl
  f5 := ⟨Try.f12.name, by decide, Try.func12.trans (congrArg some (by kernel_rfl))⟩
  f7 := ⟨Try.f21.name, by decide, Try.func21.trans (congrArg some (by kernel_rfl))⟩
  f8 := Try.func22.trans (congrArg some (by kernel_rfl))
  f10 := ⟨Try.f29.name, by decide, Try.func29.trans (congrArg some (by kernel_rfl))⟩
  f11 := ⟨Try.f30.name, by decide, Try.func30.trans (congrArg some (by kernel_rfl))⟩
  f12 := ⟨Try.f31.name, by decide, Try.func31.trans (congrArg some (by kernel_rfl))⟩
  f13 := ⟨Try.f32.name, by decide, Try.func32.trans (congrArg some (by kernel_rfl))⟩
  f14 := ⟨Try.f33.name, by decide, Try.func33.trans (congrArg some (by kernel_rfl))⟩
  f15 := ⟨Try.f34.name, by decide, Try.func34.trans (congrArg some (by kernel_rfl))⟩
  f16 := ⟨Try.f23.name, by decide, Try.func23.trans (congrArg some (by kernel_rfl))⟩
  f17 := ⟨Try.f35.name, by decide, Try.func35.trans (congrArg some (by kernel_rfl))⟩
  f18 := ⟨Try.f36.name, by decide, Try.func36.trans (congrArg some (by kernel_rfl))⟩
  f19 := Try.func37.trans (congrArg some (by kernel_rfl))
  f20 := Try.func38.trans (congrArg some (by kernel_rfl))
  f30 := ⟨Try.f43.name, by decide, Try.func43.trans (congrArg some (by kernel_rfl))⟩
  f31 := Try.func44.trans (congrArg some (by kernel_rfl))
  f32 := Try.func45.trans (congrArg some (by kernel_rfl))
  f33 := ⟨Try.f46.name, by decide, Try.func46.trans (congrArg some (by kernel_rfl))⟩
  f34 := ⟨Try.f47.name, by decide, Try.func47.trans (congrArg some (by kernel_rfl))⟩
  f35 := ⟨Try.f39.name, by decide, Try.func39.trans (congrArg some (by kernel_rfl))⟩
  f40 := ⟨Try.f51.name, by decide, Try.func51.trans (congrArg some (by kernel_rfl))⟩
  t0 := Try.underlying0
  a0 := Try.isAgg0
  z0 := Try.sizeOf0
  v0 := Try.zeroValue0
  t3 := Try.underlying3
  a3 := Try.isAgg3
  z3 := Try.sizeOf3
  v3 := Try.zeroValue3
  t4 := Try.underlying4
  a4 := Try.isAgg4
  z4 := Try.sizeOf4
  v4 := Try.zeroValue4
  t5 := Try.underlying5
  a5 := Try.isAgg5
  z5 := Try.sizeOf5
  v5 := Try.zeroValue5
  t9 := Try.underlying9
  a9 := Try.isAgg9
  z9 := Try.sizeOf9
  v9 := Try.zeroValue9
  t22 := Try.underlying27
  a22 := Try.isAgg27
  z22 := Try.sizeOf27
  v22 := Try.zeroValue27
  t23 := Try.underlying27
  a23 := Try.isAgg27
  z23 := Try.sizeOf27
  v23 := Try.zeroValue27
  t25 := Try.underlying2
  a25 := Try.isAgg2
  z25 := Try.sizeOf2
  v25 := Try.zeroValue2
  t32 := Try.underlying62
  a32 := Try.isAgg62
  z32 := Try.sizeOf62
  v32 := Try.zeroValue62
  t35 := Try.underlying76
  a35 := Try.isAgg76
  z35 := Try.sizeOf76
  v35 := Try.zeroValue76
  t36 := Try.underlying77
  a36 := Try.isAgg77
  z36 := Try.sizeOf77
  v36 := Try.zeroValue77
  t41 := Try.underlying44
  a41 := Try.isAgg44
  z41 := Try.sizeOf44
  v41 := Try.zeroValue44
  t44 := Try.underlying83
  a44 := Try.isAgg83
  z44 := Try.sizeOf83
  v44 := Try.zeroValue83
  t46 := Try.underlying49
  a46 := Try.isAgg49
  z46 := Try.sizeOf49
  v46 := Try.zeroValue49
  t53 := Try.underlying86
  a53 := Try.isAgg86
  z53 := Try.sizeOf86
  v53 := Try.zeroValue86
  t57 := Try.underlying90
  a57 := Try.isAgg90
  z57 := Try.sizeOf90
  v57 := Try.zeroValue90
  t63 := Try.underlying94
  a63 := Try.isAgg94
  z63 := Try.sizeOf94
  v63 := Try.zeroValue94
  t64 := Try.underlying95
  a64 := Try.isAgg95
  z64 := Try.sizeOf95
  v64 := Try.zeroValue95 }
open Go.Sort Go.RowKit in
theorem Try.slices_Sort (blk off cap : Nat) (zs : List Int) (w : World) (hH : Holds (Value.int .i64) w blk off zs.toArray) (hblk : blk < w.heap.size) (hsz : zs.length < 4611686018427387904) :
    Calls Try.prog 12 #[.slice (some ⟨blk, off, none⟩) zs.length cap] w fun e w' =>
      e = .returned (.tuple #[]) ∧ ∃ n os, w' = grow (putRow (Value.int .i64) (Sort.ahead w n) blk off (zs.mergeSort fun x y => decide (x ≤ y)).toArray) os := AnyM.slices_Sort_int Try.sort5 blk off cap zs w hH hblk hsz
open Go.Sort Go.RowKit in
theorem Try.slices_Sort_none (p : Option Addr) (cap : Nat) (w : World) :
    Calls Try.prog 12 #[.slice p 0 cap] w fun e w' => e = .returned (.tuple #[]) ∧ w' = w := AnyM.slices_Sort_int_none Try.sort5 p cap w
end Go.Proofs
