import Derived.Shelf.Bits.Mul64
import Derived.Test.Qxb6609202aProg
namespace Go.Proofs
open Go.Shelf
def Try.lays264_ren : Go.Shelf.Ren := ⟨fun | 264 => 15 | n => n, fun | 53 => 23 | 46 => 56 | n => n, fun | n => n⟩
theorem Try.lays264 : Go.Proofs.Lays.n264 Try.prog Try.lays264_ren := {
  mixed := by kernel_rfl
  f264 := Try.func15.trans (congrArg some (by kernel_rfl))
  t46 := Try.underlying56
  a46 := Try.isAgg56
  z46 := Try.sizeOf56
  v46 := Try.zeroValue56
  t53 := Try.underlying23
  a53 := Try.isAgg23
  z53 := Try.sizeOf23
  v53 := Try.zeroValue23 }
open Go.RowKit Go.Lib in
theorem Try.bits_Mul64 (x y : Nat) (hx : x < 18446744073709551616) (hy : y < 18446744073709551616) (w : World) :
    Calls Try.prog 15 #[.int .u64 x, .int .u64 y] w fun e w' => e = .returned (.tuple #[.int .u64 ((x * y / 18446744073709551616 : Nat) : Int), .int .u64 ((x * y % 18446744073709551616 : Nat) : Int)]) ∧ w' = w := Any.bits_Mul64 Try.lays264 x y hx hy w
end Go.Proofs
