/- The contract of laws.size at a named result. -/
import Derived.Test.YtapbcdchalgafaaSizeW
namespace Go.Proofs.Ytapbcdchalgafaa

theorem size_is {d t : Int} (w : World) (h1 : -9223372036854775808 ≤ d) (h2 : d ≤ 9223372036854775807) (ht : sized d = t) :
    Calls Try.prog 12 #[.int .i64 d] w fun e w' => e = .returned (.int .u64 t) ∧ w = w' := by
  subst ht
  exact size_any d w h1 h2

theorem sized_pos {d : Int} (h : 0 ≤ d) : sized d = d := by unfold sized; rw [if_neg (by omega)]
theorem sized_neg {d : Int} (h : d < 0) : sized d = -d := by unfold sized; rw [if_pos h]

end Go.Proofs.Ytapbcdchalgafaa
