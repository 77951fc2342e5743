/- impl.Nanoseconds, Microseconds and Milliseconds return the quotient, for every int64. -/
import Derived.Test.YtjdapjamnnmaoaaRows
import Derived.WalkKit
import Derived.ProofKit
import Derived.OpenShut
import Derived.Test.YtjdapjamnnmaoaaNumPlain
namespace Go.Proofs.Ytjdapjamnnmaoaa
open Go.ChangeShapes Go.WideShapes Go.ChangeAt Go.RowKit
set_option linter.unusedVariables false

theorem nano_any (d : Int) (w : World) (h1 : -9223372036854775808 ≤ d) (h2 : d ≤ 9223372036854775807) :
    Calls Try.prog 20 #[.int .i64 d] w fun e w' => e = .returned (.int .i64 (d)) ∧ w = w' := by
  go_enter Try.func20, Try.ntmps20
  go_wp2
  go_ret
  exact ⟨rfl, rfl⟩

theorem micro_any (d : Int) (w : World) (h1 : -9223372036854775808 ≤ d) (h2 : d ≤ 9223372036854775807) :
    Calls Try.prog 16 #[.int .i64 d] w fun e w' => e = .returned (.int .i64 (d.tdiv 1000)) ∧ w = w' := by
  go_enter Try.func16, Try.ntmps16
  go_wp2
  go_ret
  exact ⟨rfl, rfl⟩

theorem milli_any (d : Int) (w : World) (h1 : -9223372036854775808 ≤ d) (h2 : d ≤ 9223372036854775807) :
    Calls Try.prog 18 #[.int .i64 d] w fun e w' => e = .returned (.int .i64 (d.tdiv 1000000)) ∧ w = w' := by
  go_enter Try.func18, Try.ntmps18
  go_wp2
  go_ret
  exact ⟨rfl, rfl⟩

end Go.Proofs.Ytjdapjamnnmaoaa
