/-
  slices.Grow at []int, at this program: the kit's proved contracts, laid by the kit's tool in its plain mode.
-/
import Derived.Shelf.Spec.SlicesGrow
import Derived.Test.Qxb6000533aProg
namespace Go.Proofs
open Go.Shelf
def Try.growI_ren : Go.Shelf.Ren := ⟨fun | 4 => 32 | n => n, fun | 22 => 22 | 25 => 3 | 3 => 3 | 4 => 4 | 9 => 9 | 20 => 20 | 0 => 0 | n => n, fun | n => n⟩
theorem Try.growI : Go.Proofs.Lays8.n4 Try.prog Try.growI_ren := {
  mixed := by kernel_rfl
  f4 := ⟨Try.f32.name, by decide, Try.func32.trans (congrArg some (by kernel_rfl))⟩
  t0 := Try.underlying0
  a0 := Try.isAgg0
  z0 := Try.sizeOf0
  v0 := Try.zeroValue0
  t3 := Try.underlying3
  a3 := Try.isAgg3
  z3 := Try.sizeOf3
  v3 := Try.zeroValue3
  t4 := Try.underlying4
  a4 := Try.isAgg4
  z4 := Try.sizeOf4
  v4 := Try.zeroValue4
  t9 := Try.underlying9
  a9 := Try.isAgg9
  z9 := Try.sizeOf9
  v9 := Try.zeroValue9
  t20 := Try.underlying20
  a20 := Try.isAgg20
  z20 := Try.sizeOf20
  v20 := Try.zeroValue20
  t22 := Try.underlying22
  a22 := Try.isAgg22
  z22 := Try.sizeOf22
  v22 := Try.zeroValue22 }
open Go.RowKit Go.Lib in
theorem Try.grow_room (base : Option Addr) (l c n : Nat) (w : World) (hlc : l ≤ c) (hc63 : c ≤ 9223372036854775807) (hn63 : n ≤ 9223372036854775807) (hroom : l + n ≤ c) :
    Calls Try.prog 32 #[.slice base l c, .int .i64 n] w fun e w' => e = .returned (.slice base l c) ∧ w' = w := Any8.slices_Grow_room Try.growI base l c n w hlc hc63 hn63 hroom
open Go.RowKit Go.Lib in
theorem Try.grow_grow (i0 : TypeInfo) (z : Value) (hi0 : Try.prog.info? 3 = some i0) (hz0 : i0.zero = some z) (hs0 : 0 < i0.size)
    (base : Option Addr) (l c n : Nat) (cs : List Value) (w : World) (hlc : l ≤ c) (hroom : c < l + n) (hbig : (l + n) * i0.bytes ≤ 140737488355328) (h63 : l + n ≤ 4611686018427387904)
    (hcl : cs.length = c * i0.size) (hnil : base = none → c = 0) (hcs : ∀ a, base = some a → ∀ j v, cs[j]? = some v → w.cell? (a.add j) = some v) :
    Calls Try.prog 32 #[.slice base l c, .int .i64 n] w fun e w' =>
      e = .returned (.slice (some ⟨w.heap.size, 0, none⟩) l (grownCap w (l + n) c 3)) ∧
      w' = w.drew.alloc (.cells (cs.toArray ++ Builtin.zeroCells z.cells (l + n - c) ++ Builtin.zeroCells z.cells (grownCap w (l + n) c 3 - (l + n))) 3) :=
  Any8.slices_Grow_grow Try.growI i0 z hi0 hz0 hs0 base l c n cs w hlc hroom hbig h63 hcl hnil hcs
end Go.Proofs
