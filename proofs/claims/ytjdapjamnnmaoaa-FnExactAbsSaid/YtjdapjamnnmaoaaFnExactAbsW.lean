/- The law FnExactAbs returns true for every input. Both sides come to absd. No condition beyond the kinds of the arguments. -/
import Derived.Test.YtjdapjamnnmaoaaRows
import Derived.WalkKit
import Derived.ProofKit
import Derived.OpenShut
import Derived.Test.YtjdapjamnnmaoaaNumPlain
import Derived.Test.YtjdapjamnnmaoaaAbsW
import Derived.Test.YtjdapjamnnmaoaaSpecNumW
namespace Go.Proofs.Ytjdapjamnnmaoaa.fnExactAbs
open Go.ChangeShapes Go.WideShapes Go.ChangeAt Go.RowKit
set_option linter.unusedVariables false

theorem walk (a0 : Int) (w0 : (Lit.int .i64 a0).wf = true) (w : World) :
    Calls Try.prog 12 #[.int .i64 a0] w fun e w' => e = .returned (.bool true) ∧ Grown w w' := by
  obtain ⟨b01, b02⟩ := bounds_of w0
  clear w0
  go_enter Try.func12, Try.ntmps12
  go_wp2_with (first | (go_at_call 26; refine (sabs_any a0 _ b01 b02).mono ?_; rintro e w' ⟨rfl, rfl⟩) | (go_at_call 25; refine (abs_any a0 _ b01 b02).mono ?_; rintro e w' ⟨rfl, rfl⟩))
  go_ret
  exact ⟨rfl, by repeat (first | exact Grown.refl _ | apply Grown.drew | apply Grown.alloc)⟩

end Go.Proofs.Ytjdapjamnnmaoaa.fnExactAbs
