/- laws.multiple tells whether the remainder is 0, for every int64 and a step of at least 1. -/
import Derived.Test.YtapbcdchalgafaaRows
import Derived.WalkKit
import Derived.ProofKit
import Derived.OpenShut
import Derived.Test.YtapbcdchalgafaaNumPlain
namespace Go.Proofs.Ytapbcdchalgafaa
open Go.ChangeShapes Go.WideShapes Go.ChangeAt Go.RowKit
set_option linter.unusedVariables false

theorem mult_any (d m : Int) (w : World) (bd1 : -9223372036854775808 ≤ d) (bd2 : d ≤ 9223372036854775807) (bm1 : -9223372036854775808 ≤ m) (bm2 : m ≤ 9223372036854775807) (hm : 0 < m) :
    Calls Try.prog 11 #[.int .i64 d, .int .i64 m] w fun e w' => e = .returned (.bool (d.tmod m == 0)) ∧ w = w' := by
  go_enter Try.func11, Try.ntmps11
  go_wp2
  go_ret
  exact ⟨rfl, rfl⟩

end Go.Proofs.Ytapbcdchalgafaa
