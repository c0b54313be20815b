/-
  The contract of math.bits.Len8 laid at this dump (written by lay-plain.mjs for this program).
-/
import Derived.Shelf.Small.Bits
import Derived.Test.Qxb6616560aProg
namespace Go.Proofs
open Go.Shelf
def Try.lays126_ren : Go.Shelf.Ren := ⟨fun | 126 => 10 | n => n, fun | 5 => 5 | 3 => 3 | 9 => 9 | n => n, fun | n => n⟩
theorem Try.lays126 : Go.Proofs.Lays.n126 Try.prog Try.lays126_ren := {
  mixed := by kernel_rfl
  f126 := Try.func10.trans (congrArg some (by kernel_rfl))
  t3 := Try.underlying3
  a3 := Try.isAgg3
  z3 := Try.sizeOf3
  v3 := Try.zeroValue3
  t5 := Try.underlying5
  a5 := Try.isAgg5
  z5 := Try.sizeOf5
  v5 := Try.zeroValue5
  t9 := Try.underlying9
  a9 := Try.isAgg9
  z9 := Try.sizeOf9
  v9 := Try.zeroValue9 }
/-- bits.Len8: "Len8 returns the minimum number of bits required to represent x; the result is 0 for x == 0.": IT RETURNS 'Lib.bitLen x'; the world is as it was. ('h0', 'h1': x is a uint8.) (LAID: no walk: one application.) -/
theorem Try.bits_Len8 (x : Int) (w : World) (h0 : 0 ≤ x) (h1 : x ≤ 255) :
    Calls Try.prog 10 #[.int .u8 x] w fun e w' => e = .returned (.int .i64 (Lib.bitLen x.toNat)) ∧ w' = w := Any.bits_Len8 Try.lays126 x w h0 h1
end Go.Proofs
