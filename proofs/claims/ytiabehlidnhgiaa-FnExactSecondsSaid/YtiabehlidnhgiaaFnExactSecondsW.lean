/- The law FnExactSeconds returns true for every input. Both sides come to the same finite word. No condition beyond the kinds of the arguments. -/
import Derived.Test.YtiabehlidnhgiaaRows
import Derived.WalkKit
import Derived.ProofKit
import Derived.OpenShut
import Derived.Test.YtiabehlidnhgiaaSpecHoursW
import Derived.WalkLawsBesides
import Derived.Lib.Hide
namespace Go.Proofs.Ytiabehlidnhgiaa.fnExactSeconds
open Go.ChangeShapes Go.WideShapes Go.ChangeAt Go.RowKit
set_option linter.unusedVariables false

set_option maxHeartbeats 2000000 in
theorem walk (a0 : Int) (w0 : (Lit.int .i64 a0).wf = true) (w : World) :
    Calls Try.prog 5 #[.int .i64 a0] w fun e w' => e = .returned (.bool true) ∧ Grown w w' := by
  obtain ⟨b01, b02⟩ := bounds_of w0
  clear w0
  obtain ⟨f, z, e1, e2, i⟩ := seconds_ex b01 b02
  have E1 := Lib.hid e1
  have E2 := Lib.hid e2
  have I := Lib.hid i
  clear e1 e2 i
  go_enter Try.func5, Try.ntmps5
  go_wp2_with fail
  refine (sseconds_run a0 f z _ b01 b02 E1.out E2.out).mono ?_
  rintro e w' ⟨rfl, n, rfl⟩
  go_wp2_with fail
  refine (seconds_run a0 f z _ b01 b02 E1.out E2.out).mono ?_
  rintro e w' ⟨rfl, rfl⟩
  go_wp2_with fail
  refine (same_any I.out _).mono ?_
  rintro e w' ⟨rfl, rfl⟩
  go_wp2
  go_ret
  exact ⟨ret_bool (by first | rfl | (simp; done)), grown_drewN (Grown.refl _) _⟩

end Go.Proofs.Ytiabehlidnhgiaa.fnExactSeconds
