/- laws.size returns the size of a number without its sign, and laws.multiple tells whether the remainder is 0, for every int64. -/
import Derived.Test.YtapbcdchalgafaaRows
import Derived.WalkKit
import Derived.ProofKit
import Derived.OpenShut
import Derived.Test.YtapbcdchalgafaaNumPlain
namespace Go.Proofs.Ytapbcdchalgafaa
open Go.ChangeShapes Go.WideShapes Go.ChangeAt Go.RowKit

theorem size_any (d : Int) (w : World) (bd1 : -9223372036854775808 ≤ d) (bd2 : d ≤ 9223372036854775807) :
    Calls Try.prog 12 #[.int .i64 d] w fun e w' => e = .returned (.int .u64 (sized d)) ∧ w = w' := by
  by_cases hd : d < 0
  · go_enter Try.func12, Try.ntmps12
    go_wp2
    go_ret
    exact ⟨ret_int (size_neg bd1 hd), rfl⟩
  · have ht : sized d = d := by unfold sized; rw [if_neg hd]
    rw [ht]
    clear ht
    go_enter Try.func12, Try.ntmps12
    go_wp2
    go_ret
    exact ⟨rfl, rfl⟩

end Go.Proofs.Ytapbcdchalgafaa
