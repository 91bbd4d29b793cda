/-
  math/bits.TrailingZeros: the shelf's contract laid at this dump.
-/
import Derived.Shelf.Spec.TrailingZeros
import Derived.Test.Qxb6000387aDoorProg
namespace Go.Proofs
open Go.Shelf
def Tryd.lays7_ren : Go.Shelf.Ren := ⟨fun | 27 => 23 | 28 => 24 | 29 => 25 | n => n, fun | 0 => 0 | 3 => 3 | 4 => 4 | 5 => 5 | 22 => 23 | 25 => 46 | 27 => 43 | 53 => 49 | 54 => 50 | n => n, fun | 0 => 1 | 1 => 2 | n => n⟩
theorem Tryd.lays7 : Go.Proofs.Lays7.n27 Tryd.prog Tryd.lays7_ren := {
  mixed := by kernel_rfl
  f27 := Tryd.func23.trans (congrArg some (by kernel_rfl))
  f28 := Tryd.func24.trans (congrArg some (by kernel_rfl))
  f29 := Tryd.func25.trans (congrArg some (by kernel_rfl))
  t0 := Tryd.underlying0
  a0 := Tryd.isAgg0
  z0 := Tryd.sizeOf0
  v0 := Tryd.zeroValue0
  i0 := by kernel_rfl
  t3 := Tryd.underlying3
  a3 := Tryd.isAgg3
  z3 := Tryd.sizeOf3
  v3 := Tryd.zeroValue3
  i3 := by kernel_rfl
  t4 := Tryd.underlying4
  a4 := Tryd.isAgg4
  z4 := Tryd.sizeOf4
  v4 := Tryd.zeroValue4
  i4 := by kernel_rfl
  t5 := Tryd.underlying5
  a5 := Tryd.isAgg5
  z5 := Tryd.sizeOf5
  v5 := Tryd.zeroValue5
  i5 := by kernel_rfl
  t22 := Tryd.underlying23
  a22 := Tryd.isAgg23
  z22 := Tryd.sizeOf23
  v22 := Tryd.zeroValue23
  i22 := by kernel_rfl
  t25 := Tryd.underlying46
  a25 := Tryd.isAgg46
  z25 := Tryd.sizeOf46
  v25 := Tryd.zeroValue46
  i25 := by kernel_rfl
  t27 := Tryd.underlying43
  a27 := Tryd.isAgg43
  z27 := Tryd.sizeOf43
  v27 := Tryd.zeroValue43
  i27 := by kernel_rfl
  t53 := Tryd.underlying49
  a53 := Tryd.isAgg49
  z53 := Tryd.sizeOf49
  v53 := Tryd.zeroValue49
  i53 := by kernel_rfl
  t54 := Tryd.underlying50
  a54 := Tryd.isAgg50
  z54 := Tryd.sizeOf50
  g0 := by kernel_rfl
  g1 := by kernel_rfl }
theorem Tryd.trailingZeros (x : Nat) (hx : x < 18446744073709551616) (w : World) (hT : x ≠ 0 → TabAt 2 Lib.deBruijn64tab w) :
    Calls Tryd.prog 23 #[.int .u64 x] w fun e w' => e = .returned (.int .i64 (Lib.ctz 64 x)) ∧ w' = w := Any7.bits_TrailingZeros Tryd.lays7 x hx w hT
end Go.Proofs
