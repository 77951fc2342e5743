/- The law FnStringShape returns true for every input. The text is walked byte by byte. No condition beyond the kinds of the arguments. -/
import Derived.Test.YtkagbpnmdflhjaaRows
import Derived.WalkKit
import Derived.ProofKit
import Derived.OpenShut
import Derived.Test.YtkagbpnmdflhjaaShapeW
namespace Go.Proofs.Ytkagbpnmdflhjaa.fnStringShape
open Go.ChangeShapes Go.WideShapes Go.ChangeAt Go.RowKit
set_option linter.unusedVariables false

set_option maxHeartbeats 2000000 in
theorem walk (a0 : Int) (w0 : (Lit.int .i64 a0).wf = true) (w : World) :
    Calls Try.prog 9 #[.int .i64 a0] w fun e w' => e = .returned (.bool true) ∧ Grown w w' := by
  obtain ⟨b01, b02⟩ := bounds_of w0
  exact shape_any w b01 b02

end Go.Proofs.Ytkagbpnmdflhjaa.fnStringShape
