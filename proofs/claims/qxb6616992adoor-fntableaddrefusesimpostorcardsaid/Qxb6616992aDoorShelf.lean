/- bits.LeadingZeros8's contract (the guide's shelf: Derived/Shelf/Small/Bits.lean) at this dump, in plain words: the laying as the shelf's tools wrote it for this program. -/
import Derived.Shelf.Small.Bits
import Derived.Test.Qxb6616992aDoorRows
namespace Go.Proofs
open Go.Shelf
def Tryd.lays131_ren : Go.Shelf.Ren := ⟨fun | 131 => 39 | 126 => 47 | n => n, fun | 5 => 5 | 3 => 3 | 9 => 9 | n => n, fun | n => n⟩
theorem Tryd.lays131 : Go.Proofs.Lays.n131 Tryd.prog Tryd.lays131_ren := {
  mixed := by kernel_rfl
  f126 := Tryd.func47.trans (congrArg some (by kernel_rfl))
  f131 := Tryd.func39.trans (congrArg some (by kernel_rfl))
  t3 := Tryd.underlying3
  a3 := Tryd.isAgg3
  z3 := Tryd.sizeOf3
  v3 := Tryd.zeroValue3
  t5 := Tryd.underlying5
  a5 := Tryd.isAgg5
  z5 := Tryd.sizeOf5
  v5 := Tryd.zeroValue5
  t9 := Tryd.underlying9
  a9 := Tryd.isAgg9
  z9 := Tryd.sizeOf9
  v9 := Tryd.zeroValue9 }

namespace Qxb6616992aDoor
theorem lz8_any (x : Int) (w : World) (h0 : 0 ≤ x) (h1 : x ≤ 255) :
    Calls Tryd.prog 39 #[.int .u8 x] w fun e w' => e = .returned (.int .i64 (8 - (Lib.bitLen x.toNat : Int))) ∧ w' = w := Any.bits_LeadingZeros8 Tryd.lays131 x w h0 h1
theorem bitLen_le : ∀ x, x < 256 → Lib.bitLen x ≤ 8 := by decide +kernel
end Qxb6616992aDoor
end Go.Proofs
