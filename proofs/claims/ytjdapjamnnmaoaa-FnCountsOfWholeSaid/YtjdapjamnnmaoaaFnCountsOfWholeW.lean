/- The law FnCountsOfWhole returns true for every input. Whole microseconds and milliseconds are counted as they are. No condition beyond the kinds of the arguments. -/
import Derived.Test.YtjdapjamnnmaoaaRows
import Derived.WalkKit
import Derived.ProofKit
import Derived.OpenShut
import Derived.Test.YtjdapjamnnmaoaaNumPlain
namespace Go.Proofs.Ytjdapjamnnmaoaa.fnCountsOfWhole
open Go.ChangeShapes Go.WideShapes Go.ChangeAt Go.RowKit
set_option linter.unusedVariables false

theorem walk (a0 : Int) (w0 : (Lit.int .i64 a0).wf = true) (w : World) :
    Calls Try.prog 10 #[.int .i64 a0] w fun e w' => e = .returned (.bool true) ∧ Grown w w' := by
  obtain ⟨b01, b02⟩ := bounds_of w0
  clear w0
  by_cases h1 : 9223372036854 < a0
  · go_enter Try.func10, Try.ntmps10
    go_wp2
    go_ret
    exact ⟨rfl, Grown.refl _⟩
  · by_cases h2 : a0 < -9223372036854
    · go_enter Try.func10, Try.ntmps10
      go_wp2
      go_ret
      exact ⟨rfl, Grown.refl _⟩
    · have h1' : a0 ≤ 9223372036854 := by omega
      have h2' : -9223372036854 ≤ a0 := by omega
      clear h1 h2
      have e1 : (a0 * 1000).tdiv 1000 = a0 := Int.mul_tdiv_cancel _ (by omega)
      have e2 : (a0 * 1000000).tdiv 1000000 = a0 := Int.mul_tdiv_cancel _ (by omega)
      go_enter Try.func10, Try.ntmps10
      go_wp2
      go_ret
      exact ⟨rfl, Grown.refl _⟩

end Go.Proofs.Ytjdapjamnnmaoaa.fnCountsOfWhole
