/- The contracts of the reference's small functions: Luma, Primary, Near, Apart, and of apart. -/
import Derived.Test.YtbehpaclnpildaaRows
import Derived.Test.YtbehpaclnpildaaPlain
import Derived.Test.YtbehpaclnpildaaBase
import Derived.WalkKit
import Derived.ProofKit
import Derived.OpenShut
import Derived.LoopN
import Derived.Lib.MinMax
namespace Go.Proofs.Ytbehpaclnpildaa
open Go.ChangeShapes Go.WideShapes Go.ChangeAt Go.RowKit Plain
set_option linter.unusedVariables false




theorem specApart (x y : Int) (w : World) (hx0 : 0 ≤ x) (hx1 : x ≤ 4294967295) (hy0 : 0 ≤ y) (hy1 : y ≤ 4294967295) :
    Calls Try.prog 28 #[.int .u32 x, .int .u32 y] w fun e w' => e = .returned (.int .i64 (max (x - y) (y - x))) ∧ w = w' := by
  go_enter Try.func28, Try.ntmps28
  go_wp2
  go_ret
  exact ⟨rfl, rfl⟩

end Go.Proofs.Ytbehpaclnpildaa
