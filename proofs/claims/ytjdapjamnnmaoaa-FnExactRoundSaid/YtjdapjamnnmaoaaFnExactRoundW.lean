/- The law FnExactRound returns true for every input. Both sides come to roundd. No condition beyond the kinds of the arguments. -/
import Derived.Test.YtjdapjamnnmaoaaRows
import Derived.WalkKit
import Derived.ProofKit
import Derived.OpenShut
import Derived.Test.YtjdapjamnnmaoaaNumPlain
import Derived.Test.YtjdapjamnnmaoaaRoundW
import Derived.Test.YtjdapjamnnmaoaaSpecNumW
namespace Go.Proofs.Ytjdapjamnnmaoaa.fnExactRound
open Go.ChangeShapes Go.WideShapes Go.ChangeAt Go.RowKit
set_option linter.unusedVariables false

theorem walk (a0 : Int) (a1 : Int) (w0 : (Lit.int .i64 a0).wf = true) (w1 : (Lit.int .i64 a1).wf = true) (w : World) :
    Calls Try.prog 14 #[.int .i64 a0, .int .i64 a1] w fun e w' => e = .returned (.bool true) ∧ Grown w w' := by
  obtain ⟨b01, b02⟩ := bounds_of w0
  obtain ⟨b11, b12⟩ := bounds_of w1
  clear w0 w1
  go_enter Try.func14, Try.ntmps14
  go_wp2_with (first | (go_at_call 27; refine (sround_any a0 a1 _ b01 b02 b11 b12).mono ?_; rintro e w' ⟨rfl, rfl⟩) | (go_at_call 28; refine (round_any a0 a1 _ b01 b02 b11 b12).mono ?_; rintro e w' ⟨rfl, rfl⟩))
  go_ret
  exact ⟨rfl, by repeat (first | exact Grown.refl _ | apply Grown.drew | apply Grown.alloc)⟩

end Go.Proofs.Ytjdapjamnnmaoaa.fnExactRound
