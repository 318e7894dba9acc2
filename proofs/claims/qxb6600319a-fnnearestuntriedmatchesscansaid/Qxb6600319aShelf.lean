/-
  slices.BinarySearch at []int, at this program: the kit's proved contracts, laid by the kit's tool in its plain mode. No walk.
-/
import Derived.Shelf.Slices.SearchI
import Derived.Shelf.Slices.Empties
import Derived.Test.Qxb6600319aProg
namespace Go.Proofs
open Go.Shelf
def Try.laysNm225_ren : Go.Shelf.Ren := ⟨fun | 25 => 35 | 31 => 38 | 32 => 39 | 37 => 41 | n => n, fun | 22 => 26 | 3 => 3 | 4 => 4 | 40 => 38 | 0 => 0 | n => n, fun | n => n⟩
theorem Try.laysNm225 : Go.Proofs.Lays2.n25 Try.prog Try.laysNm225_ren := {
  mixed := by kernel_rfl
  f25 := Try.func35.trans (congrArg some (by kernel_rfl))
  f31 := Try.func38.trans (congrArg some (by kernel_rfl))
  f32 := Try.func39.trans (congrArg some (by kernel_rfl))
  f37 := Try.func41.trans (congrArg some (by kernel_rfl))
  t0 := Try.underlying0
  a0 := Try.isAgg0
  z0 := Try.sizeOf0
  v0 := Try.zeroValue0
  t3 := Try.underlying3
  a3 := Try.isAgg3
  z3 := Try.sizeOf3
  v3 := Try.zeroValue3
  t4 := Try.underlying4
  a4 := Try.isAgg4
  z4 := Try.sizeOf4
  v4 := Try.zeroValue4
  t22 := Try.underlying26
  a22 := Try.isAgg26
  z22 := Try.sizeOf26
  v22 := Try.zeroValue26
  t40 := Try.underlying38
  a40 := Try.isAgg38
  z40 := Try.sizeOf38
  v40 := Try.zeroValue38 }
open Go.RowKit Go.Lib in
theorem Try.slices_BinarySearch_int (b off n c : Nat) (zs : List Int) (x : Int) (w : World) (hz : n ≤ zs.length) (hbig : n < 4611686018427387904) (hc : ∀ j, j < zs.length → w.cell? ⟨b, off + j, none⟩ = some (.int .i64 (zs.getD j 0))) (hs : (zs.take n).Pairwise (· ≤ ·)) :
    Calls Try.prog 35 #[.slice (some ⟨b, off, none⟩) n c, .int .i64 x] w fun e w' => e = .returned (.tuple #[.int .i64 ((zs.take n).countP (· < x) : Nat), .bool ((zs.take n).contains x)]) ∧ ∃ q, w' = w.drewN q := Any.slices_BinarySearch_int Try.laysNm225 b off n c zs x w hz hbig hc hs
open Go.RowKit Go.Lib in
theorem Try.slices_BinarySearch_int_empty (a : Option Addr) (c : Nat) (x : Int) (w : World) :
    Calls Try.prog 35 #[.slice a 0 c, .int .i64 x] w fun e w' => e = .returned (.tuple #[.int .i64 0, .bool false]) ∧ w' = w := Any.slices_BinarySearch_int_empty Try.laysNm225 a c x w
end Go.Proofs
