import Derived.Test.Qxb6000073aDoorRows
import Derived.Shelf.Strconv.Itoa4
import Derived.Shelf.Lay
import Derived.Ground.NamesProg
namespace Go.Proofs
open Go.Shelf

shelf_lay LaysM.n173 Nm 173 at Tryd as Tryd.lays173
/-- strconv.FormatInt at base 10, off the shelf. -/
theorem Tryd.strconv_FormatInt_10 (n : Int) (h0 : -9223372036854775808 ≤ n) (h1 : n ≤ 9223372036854775807) (w : World) (htab : Lib.TabIs Tryd.prog w "internal/strconv.uint64pow10" .u64 Lib.pow10Tab) :
    Calls Tryd.prog 15 #[.int .i64 n, .int .i64 10] w fun e w' => e = .returned (.string ⟨(Lib.itoa n).toArray⟩) ∧ ∃ k os, w' = Sort.grow (w.drewN k) os := Any.strconv_FormatInt_10 Tryd.lays173 n h0 h1 w htab
end Go.Proofs
