/-
  math/bits.Len at this dump, under this seat's own name.
-/
import Derived.Test.Qxb6630281aShelf
import Derived.Test.Qxb6630281aSort0
namespace Go.Proofs.Qxb6630281a.Own
theorem bits_Len (x : Int) (w : World) (h0 : 0 ≤ x) (h1 : x ≤ 18446744073709551615) :
    Calls Try.prog 18 #[.int .u64 x] w fun e w' => e = .returned (.int .i64 (Lib.bitLen x.toNat)) ∧ w' = w := Try.bits_Len x w h0 h1
end Go.Proofs.Qxb6630281a.Own
