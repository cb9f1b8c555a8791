/-
  The shelf's contracts laid at this program: math/bits.Len.
-/
import Derived.Test.Qxb6601041aRows
import Derived.Shelf.Small.Bits
import Derived.Shelf.Lay
import Derived.Ground.NamesProg
namespace Go.Proofs
open Go.Shelf
shelf_lay Lays.n125 Nm 125 at Try as Qxb6601041a.lays125
namespace Qxb6601041a
theorem so_bits_Len (x : Int) (w : World) (h0 : 0 ≤ x) (h1 : x ≤ 18446744073709551615) :
    Calls Try.prog 53 #[.int .u64 x] w fun e w' => e = .returned (.int .i64 (Lib.bitLen x.toNat)) ∧ w' = w := Any.bits_Len lays125 x w h0 h1
end Qxb6601041a
end Go.Proofs
