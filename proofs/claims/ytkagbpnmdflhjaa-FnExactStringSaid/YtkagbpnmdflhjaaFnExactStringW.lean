/- The law FnExactString returns true for every input. Both sides come to the text str d. No condition beyond the kinds of the arguments. -/
import Derived.Test.YtkagbpnmdflhjaaRows
import Derived.WalkKit
import Derived.ProofKit
import Derived.OpenShut
import Derived.Test.YtkagbpnmdflhjaaSpecStringW
import Derived.Lib.Hide
namespace Go.Proofs.Ytkagbpnmdflhjaa.fnExactString
open Go.ChangeShapes Go.WideShapes Go.ChangeAt Go.RowKit
set_option linter.unusedVariables false

set_option maxHeartbeats 2000000 in
theorem walk (a0 : Int) (w0 : (Lit.int .i64 a0).wf = true) (w : World) :
    Calls Try.prog 3 #[.int .i64 a0] w fun e w' => e = .returned (.bool true) ∧ Grown w w' := by
  obtain ⟨b01, b02⟩ := bounds_of w0
  clear w0
  obtain ⟨x, hx⟩ : ∃ x, str a0 = x := ⟨_, rfl⟩
  have c1 := fun w => spec_any (d := a0) w b01 b02
  rw [hx] at c1
  have C1 := Lib.hid c1
  have X := Lib.hid hx
  clear c1 hx
  go_enter Try.func3, Try.ntmps3
  go_wp2_with fail
  refine (C1.out _).mono ?_
  rintro e v1 ⟨rfl, g1⟩
  have G1 := Lib.hid g1
  clear g1
  go_wp2_with fail
  refine (string_is _ b01 b02 X.out).mono ?_
  rintro e w' ⟨rfl, rfl⟩
  go_wp2
  go_ret
  exact ⟨ret_bool (by first | rfl | (simp; done)), grown_bw G1.out _ _ _⟩

end Go.Proofs.Ytkagbpnmdflhjaa.fnExactString
