import Derived.Shelf.Lay
import Derived.Shelf.Small.Bits
import Derived.Shelf.SlSortCmp.Xorshift
import Derived.Test.YbulkbrtmFmtProg
import Derived.Test.YbulkbrtmFmtRows
namespace Go.Proofs
open Go.Shelf Go.Lib Go.Sort
shelf_lay Lays.n125 Nm 125 at Ybaf as Ybaf.lays125
theorem Ybaf.bits_Len (x : Int) (w : World) (h0 : 0 ≤ x) (h1 : x ≤ 18446744073709551615) :
    Calls Ybaf.prog 25 #[.int .u64 x] w fun e w' => e = .returned (.int .i64 (Lib.bitLen x.toNat)) ∧ w' = w := Any.bits_Len Ybaf.lays125 x w h0 h1
shelf_lay SlLaysF0.n48 Slsf 48 at Ybaf as Ybaf.laysX48
theorem Ybaf.xor_next (rb ro X : Nat) (hX : X < 18446744073709551616) (w : World) (hc : w.cell? ⟨rb, ro, none⟩ = some (.int .u64 X)) (hf : w.frozen? ⟨rb, ro, none⟩ = false) :
    Calls Ybaf.prog 50 #[.pointer (some ⟨rb, ro, none⟩)] w fun e w' => e = .returned (.int .u64 (xorNextN X : Nat)) ∧ w' = (w.setCell ⟨rb, ro, none⟩ (.int .u64 (xorNextN X : Nat))).drewN 3 := AnyF.xorshift_Next Ybaf.laysX48 rb ro X hX w hc hf
end Go.Proofs
