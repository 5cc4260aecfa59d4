/-
  slices.BinarySearch's AND slices.Delete's CONTRACTS at []int (the shelf's, proved once) at this dump, in plain words: laid by the kit's own tools (lay-shelf.mjs, lay-plain.mjs) for this program.
-/
import Derived.Shelf.Slices.SearchI
import Derived.Shelf.Slices.Delete
import Derived.Test.Qxb6609224aProg
namespace Go.Proofs
open Go.Shelf
def Try.laysNm225_ren : Go.Shelf.Ren := ⟨fun | 25 => 57 | 31 => 62 | 32 => 63 | 37 => 64 | n => n, fun | 22 => 24 | 3 => 3 | 4 => 4 | 40 => 137 | 0 => 0 | n => n, fun | n => n⟩
theorem Try.laysNm225 : Go.Proofs.Lays2.n25 Try.prog Try.laysNm225_ren := {
  mixed := by kernel_rfl
  f25 := Try.func57.trans (congrArg some (by kernel_rfl))
  f31 := Try.func62.trans (congrArg some (by kernel_rfl))
  f32 := Try.func63.trans (congrArg some (by kernel_rfl))
  f37 := Try.func64.trans (congrArg some (by kernel_rfl))
  t0 := Try.underlying0
  a0 := Try.isAgg0
  z0 := Try.sizeOf0
  v0 := Try.zeroValue0
  t3 := Try.underlying3
  a3 := Try.isAgg3
  z3 := Try.sizeOf3
  v3 := Try.zeroValue3
  t4 := Try.underlying4
  a4 := Try.isAgg4
  z4 := Try.sizeOf4
  v4 := Try.zeroValue4
  t22 := Try.underlying24
  a22 := Try.isAgg24
  z22 := Try.sizeOf24
  v22 := Try.zeroValue24
  t40 := Try.underlying137
  a40 := Try.isAgg137
  z40 := Try.sizeOf137
  v40 := Try.zeroValue137 }
open Go.RowKit Go.Lib in
theorem Try.slices_BinarySearch_int (b off n c : Nat) (zs : List Int) (x : Int) (w : World) (hz : n ≤ zs.length) (hbig : n < 4611686018427387904) (hc : ∀ j, j < zs.length → w.cell? ⟨b, off + j, none⟩ = some (.int .i64 (zs.getD j 0))) (hs : (zs.take n).Pairwise (· ≤ ·)) :
    Calls Try.prog 57 #[.slice (some ⟨b, off, none⟩) n c, .int .i64 x] w fun e w' => e = .returned (.tuple #[.int .i64 ((zs.take n).countP (· < x) : Nat), .bool ((zs.take n).contains x)]) ∧ ∃ q, w' = w.drewN q := Any.slices_BinarySearch_int Try.laysNm225 b off n c zs x w hz hbig hc hs
def Try.laysNm223_ren : Go.Shelf.Ren := ⟨fun | 23 => 58 | n => n, fun | 22 => 24 | 3 => 3 | 4 => 4 | 0 => 0 | n => n, fun | n => n⟩
theorem Try.laysNm223 : Go.Proofs.Lays2.n23 Try.prog Try.laysNm223_ren := {
  mixed := by kernel_rfl
  f23 := Try.func58.trans (congrArg some (by kernel_rfl))
  t0 := Try.underlying0
  a0 := Try.isAgg0
  z0 := Try.sizeOf0
  v0 := Try.zeroValue0
  t3 := Try.underlying3
  a3 := Try.isAgg3
  z3 := Try.sizeOf3
  v3 := Try.zeroValue3
  t4 := Try.underlying4
  a4 := Try.isAgg4
  z4 := Try.sizeOf4
  v4 := Try.zeroValue4
  t22 := Try.underlying24
  a22 := Try.isAgg24
  z22 := Try.sizeOf24
  v22 := Try.zeroValue24
  i3 := by kernel_rfl }
open Go.RowKit Go.Lib Go.Sort in
theorem Try.slices_Delete_int (blk off cap i j : Nat) (zs : List Int) (w : World) (hH : Holds (Value.int .i64) w blk off zs.toArray) (hcap : zs.length ≤ cap) (hm : cap ≤ 9223372036854775807) (hij : i ≤ j) (hj : j ≤ zs.length) :
    Calls Try.prog 58 #[.slice (some ⟨blk, off, none⟩) zs.length cap, .int .i64 i, .int .i64 j] w fun e w' => e = .returned (.slice (some ⟨blk, off, none⟩) (zs.length - (j - i)) cap) ∧ ∃ q, w' = putRow (Value.int .i64) (Sort.ahead w q) blk off (zs.take i ++ zs.drop j ++ List.replicate (j - i) 0).toArray := Any.slices_Delete_int Try.laysNm223 blk off cap i j zs w hH hcap hm hij hj
end Go.Proofs
