/- slices.Reverse and slices.Sort at []int64: the library's contracts at this dump's numbers, in plain words (written by the kit's lay-shelf.mjs and lay-plain.mjs; remarks shortened). -/
import Derived.Ground.SlgnProg
import Derived.Shelf.SlicesE.Reverse
import Derived.Ground.SlgmProg
import Derived.Shelf.SortM.Plain
import Derived.Shelf.SortM.SortNone
import Derived.Test.YtbdcpfpoohadaaaProg
namespace Go.Proofs
open Go.Shelf
def Try.laysSlE35_f23_ren : Go.Shelf.Ren := ⟨fun | 35 => 23 | n => n, fun | 22 => 26 | 23 => 2 | 3 => 3 | 4 => 4 | 0 => 0 | n => n, fun | n => n⟩
theorem Try.laysSlE35_f23 : Go.Proofs.SlLaysE.n35 Try.prog Try.laysSlE35_f23_ren := {
  mixed := by kernel_rfl
  f35 := ⟨Try.f23.name, by decide, Try.func23.trans (congrArg some (by kernel_rfl))⟩
  t0 := Try.underlying0
  a0 := Try.isAgg0
  z0 := Try.sizeOf0
  v0 := Try.zeroValue0
  t3 := Try.underlying3
  a3 := Try.isAgg3
  z3 := Try.sizeOf3
  v3 := Try.zeroValue3
  t4 := Try.underlying4
  a4 := Try.isAgg4
  z4 := Try.sizeOf4
  v4 := Try.zeroValue4
  t22 := Try.underlying26
  a22 := Try.isAgg26
  z22 := Try.sizeOf26
  v22 := Try.zeroValue26
  a23 := Try.isAgg2
  z23 := Try.sizeOf2 }
open Go.RowKit Go.Lib Go.Sort in
theorem Try.slices_Reverse {α : Type} [Inhabited α] (enc : α → Value) (h1 : OneCell enc) (blk off cap : Nat) (zs : List α) (w : World) (hH : Holds enc w blk off zs.toArray) (hsz : zs.length ≤ 9223372036854775807) :
    Calls Try.prog 23 #[.slice (some ⟨blk, off, none⟩) zs.length cap] w fun e w' => e = .returned (.tuple #[]) ∧ ∃ n, w' = putRow enc (Sort.ahead w n) blk off zs.reverse.toArray := AnyE.slices_Reverse Try.laysSlE35_f23 enc h1 blk off cap zs w hH hsz
open Go.RowKit Go.Lib Go.Sort in
theorem Try.slices_Reverse_empty {α : Type} [Inhabited α] (a : Option Addr) (cap : Nat) (w : World) :
    Calls Try.prog 23 #[.slice a 0 cap] w fun e w' => e = .returned (.tuple #[]) ∧ w' = w := AnyE.slices_Reverse_empty Try.laysSlE35_f23 a cap w
def Try.laysSlM5_f24_ren : Go.Shelf.Ren := ⟨fun | 5 => 24 | 8 => 29 | 7 => 28 | 19 => 44 | 20 => 45 | 10 => 35 | 11 => 36 | 12 => 37 | 13 => 38 | 14 => 39 | 15 => 40 | 16 => 41 | 17 => 42 | 18 => 43 | 30 => 50 | 31 => 51 | 32 => 52 | 33 => 53 | 34 => 54 | 35 => 55 | 40 => 57 | n => n, fun | 23 => 26 | 25 => 2 | 3 => 3 | 32 => 46 | 22 => 26 | 0 => 0 | 44 => 71 | 46 => 28 | 4 => 4 | 36 => 65 | 35 => 64 | 41 => 33 | 5 => 5 | 9 => 9 | 53 => 78 | 57 => 81 | 63 => 84 | 64 => 85 | n => n, fun | n => n⟩
theorem Try.laysSlM5_f24 : Go.Proofs.SlLaysM.n5 Try.prog Try.laysSlM5_f24_ren := {
  mixed := by kernel_rfl
  f5 := ⟨Try.f24.name, by decide, Try.func24.trans (congrArg some (by kernel_rfl))⟩
  f7 := ⟨Try.f28.name, by decide, Try.func28.trans (congrArg some (by kernel_rfl))⟩
  f8 := Try.func29.trans (congrArg some (by kernel_rfl))
  f10 := ⟨Try.f35.name, by decide, Try.func35.trans (congrArg some (by kernel_rfl))⟩
  f11 := ⟨Try.f36.name, by decide, Try.func36.trans (congrArg some (by kernel_rfl))⟩
  f12 := ⟨Try.f37.name, by decide, Try.func37.trans (congrArg some (by kernel_rfl))⟩
  f13 := ⟨Try.f38.name, by decide, Try.func38.trans (congrArg some (by kernel_rfl))⟩
  f14 := ⟨Try.f39.name, by decide, Try.func39.trans (congrArg some (by kernel_rfl))⟩
  f15 := ⟨Try.f40.name, by decide, Try.func40.trans (congrArg some (by kernel_rfl))⟩
  f16 := ⟨Try.f41.name, by decide, Try.func41.trans (congrArg some (by kernel_rfl))⟩
  f17 := ⟨Try.f42.name, by decide, Try.func42.trans (congrArg some (by kernel_rfl))⟩
  f18 := ⟨Try.f43.name, by decide, Try.func43.trans (congrArg some (by kernel_rfl))⟩
  f19 := Try.func44.trans (congrArg some (by kernel_rfl))
  f20 := Try.func45.trans (congrArg some (by kernel_rfl))
  f30 := ⟨Try.f50.name, by decide, Try.func50.trans (congrArg some (by kernel_rfl))⟩
  f31 := Try.func51.trans (congrArg some (by kernel_rfl))
  f32 := Try.func52.trans (congrArg some (by kernel_rfl))
  f33 := ⟨Try.f53.name, by decide, Try.func53.trans (congrArg some (by kernel_rfl))⟩
  f34 := ⟨Try.f54.name, by decide, Try.func54.trans (congrArg some (by kernel_rfl))⟩
  f35 := ⟨Try.f55.name, by decide, Try.func55.trans (congrArg some (by kernel_rfl))⟩
  f40 := ⟨Try.f57.name, by decide, Try.func57.trans (congrArg some (by kernel_rfl))⟩
  t0 := Try.underlying0
  a0 := Try.isAgg0
  z0 := Try.sizeOf0
  v0 := Try.zeroValue0
  t3 := Try.underlying3
  a3 := Try.isAgg3
  z3 := Try.sizeOf3
  v3 := Try.zeroValue3
  t4 := Try.underlying4
  a4 := Try.isAgg4
  z4 := Try.sizeOf4
  v4 := Try.zeroValue4
  t5 := Try.underlying5
  a5 := Try.isAgg5
  z5 := Try.sizeOf5
  v5 := Try.zeroValue5
  t9 := Try.underlying9
  a9 := Try.isAgg9
  z9 := Try.sizeOf9
  v9 := Try.zeroValue9
  t22 := Try.underlying26
  a22 := Try.isAgg26
  z22 := Try.sizeOf26
  v22 := Try.zeroValue26
  t23 := Try.underlying26
  a23 := Try.isAgg26
  z23 := Try.sizeOf26
  v23 := Try.zeroValue26
  t25 := Try.underlying2
  a25 := Try.isAgg2
  z25 := Try.sizeOf2
  v25 := Try.zeroValue2
  t32 := Try.underlying46
  a32 := Try.isAgg46
  z32 := Try.sizeOf46
  v32 := Try.zeroValue46
  t35 := Try.underlying64
  a35 := Try.isAgg64
  z35 := Try.sizeOf64
  v35 := Try.zeroValue64
  t36 := Try.underlying65
  a36 := Try.isAgg65
  z36 := Try.sizeOf65
  v36 := Try.zeroValue65
  t41 := Try.underlying33
  a41 := Try.isAgg33
  z41 := Try.sizeOf33
  v41 := Try.zeroValue33
  t44 := Try.underlying71
  a44 := Try.isAgg71
  z44 := Try.sizeOf71
  v44 := Try.zeroValue71
  t46 := Try.underlying28
  a46 := Try.isAgg28
  z46 := Try.sizeOf28
  v46 := Try.zeroValue28
  t53 := Try.underlying78
  a53 := Try.isAgg78
  z53 := Try.sizeOf78
  v53 := Try.zeroValue78
  t57 := Try.underlying81
  a57 := Try.isAgg81
  z57 := Try.sizeOf81
  v57 := Try.zeroValue81
  t63 := Try.underlying84
  a63 := Try.isAgg84
  z63 := Try.sizeOf84
  v63 := Try.zeroValue84
  t64 := Try.underlying85
  a64 := Try.isAgg85
  z64 := Try.sizeOf85
  v64 := Try.zeroValue85 }
open Go.Sort Go.RowKit in
theorem Try.slices_Sort_int (blk off cap : Nat) (zs : List Int) (w : World) (hH : Holds (Value.int .i64) w blk off zs.toArray) (hblk : blk < w.heap.size) (hsz : zs.length < 4611686018427387904) :
    Calls Try.prog 24 #[.slice (some ⟨blk, off, none⟩) zs.length cap] w fun e w' =>
      e = .returned (.tuple #[]) ∧ ∃ n os, w' = grow (putRow (Value.int .i64) (Sort.ahead w n) blk off (zs.mergeSort fun x y => decide (x ≤ y)).toArray) os := AnyM.slices_Sort_int Try.laysSlM5_f24 blk off cap zs w hH hblk hsz
open Go.RowKit Go.Sort in
theorem Try.slices_Sort_int_none (p : Option Addr) (cap : Nat) (w : World) :
    Calls Try.prog 24 #[.slice p 0 cap] w fun e w' => e = .returned (.tuple #[]) ∧ w' = w := AnyM.slices_Sort_int_none Try.laysSlM5_f24 p cap w
end Go.Proofs
