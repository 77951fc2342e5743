/- The contract of impl.Round at a named result. -/
import Derived.Test.YtapbcdchalgafaaRoundW
import Derived.Test.YtapbcdchalgafaaRoundPlain
namespace Go.Proofs.Ytapbcdchalgafaa

theorem round_is {d m t : Int} (w : World) (h1 : -9223372036854775808 ≤ d) (h2 : d ≤ 9223372036854775807) (h3 : -9223372036854775808 ≤ m) (h4 : m ≤ 9223372036854775807) (ht : roundd d m = t) :
    Calls Try.prog 10 #[.int .i64 d, .int .i64 m] w fun e w' => e = .returned (.int .i64 t) ∧ w = w' := by
  subst ht
  exact round_any d m w h1 h2 h3 h4

end Go.Proofs.Ytapbcdchalgafaa
