/- The reference spec.Hours, Minutes and Seconds return the very word that impl returns; laws.sameFloat is true of a finite word and itself. -/
import Derived.Test.YtiabehlidnhgiaaRows
import Derived.WalkKit
import Derived.WalkLawsBesides
import Derived.ProofKit
import Derived.OpenShut
import Derived.Deep.QuietTactic
import Derived.BigQuiet
import Derived.Lib.Hide
import Derived.Test.YtiabehlidnhgiaaNumPlain
import Derived.Test.YtiabehlidnhgiaaFl
import Derived.Test.YtiabehlidnhgiaaHoursW
namespace Go.Proofs.Ytiabehlidnhgiaa
open Go.ChangeShapes Go.WideShapes Go.ChangeAt Go.RowKit
set_option linter.unusedVariables false

theorem shours_run (d : Int) (f z : Nat) (w : World) (h1 : -9223372036854775808 ≤ d) (h2 : d ≤ 9223372036854775807)
    (e1 : floatBits .quo .f64 (floatOfInt .f64 (d.tmod 3600000000000)) 4794699203894837248 = some f)
    (e2 : floatBits .add .f64 (floatOfInt .f64 (d.tdiv 3600000000000)) f = some z) :
    Calls Try.prog 10 #[.int .i64 d] w fun e w' => e = .returned (.float .f64 z) ∧ ∃ n, w' = w.drewN n := by
  rw [← hours_bits] at e1
  have k1 := fun w => run_float_arith (P := Try.prog) w .quo 22 .f64 _ _ f e1
  have k2 := fun w => run_float_arith (P := Try.prog) w .add 22 .f64 _ _ z e2
  clear e1 e2
  go_enter Try.func10, Try.ntmps10
  go_wp2
  go_quiet (fail)
  go_wp2
  go_ret
  exact ⟨rfl, _, rfl⟩

theorem sminutes_run (d : Int) (f z : Nat) (w : World) (h1 : -9223372036854775808 ≤ d) (h2 : d ≤ 9223372036854775807)
    (e1 : floatBits .quo .f64 (floatOfInt .f64 (d.tmod 60000000000)) 4768169126130614272 = some f)
    (e2 : floatBits .add .f64 (floatOfInt .f64 (d.tdiv 60000000000)) f = some z) :
    Calls Try.prog 13 #[.int .i64 d] w fun e w' => e = .returned (.float .f64 z) ∧ ∃ n, w' = w.drewN n := by
  rw [← minutes_bits] at e1
  have k1 := fun w => run_float_arith (P := Try.prog) w .quo 22 .f64 _ _ f e1
  have k2 := fun w => run_float_arith (P := Try.prog) w .add 22 .f64 _ _ z e2
  clear e1 e2
  go_enter Try.func13, Try.ntmps13
  go_wp2
  go_quiet (fail)
  go_wp2
  go_ret
  exact ⟨rfl, _, rfl⟩

theorem sseconds_run (d : Int) (f z : Nat) (w : World) (h1 : -9223372036854775808 ≤ d) (h2 : d ≤ 9223372036854775807)
    (e1 : floatBits .quo .f64 (floatOfInt .f64 (d.tmod 1000000000)) 4741671816366391296 = some f)
    (e2 : floatBits .add .f64 (floatOfInt .f64 (d.tdiv 1000000000)) f = some z) :
    Calls Try.prog 15 #[.int .i64 d] w fun e w' => e = .returned (.float .f64 z) ∧ ∃ n, w' = w.drewN n := by
  rw [← seconds_bits] at e1
  have k1 := fun w => run_float_arith (P := Try.prog) w .quo 22 .f64 _ _ f e1
  have k2 := fun w => run_float_arith (P := Try.prog) w .add 22 .f64 _ _ z e2
  clear e1 e2
  go_enter Try.func15, Try.ntmps15
  go_wp2
  go_quiet (fail)
  go_wp2
  go_ret
  exact ⟨rfl, _, rfl⟩

theorem same_nonzero (x : Nat) (w : World) (o1 : FloatKind.f64.format.order x x = some .eq) (o2 : (FloatKind.f64.format.order x 0 == some .eq) = false) :
    Calls Try.prog 12 #[.float .f64 x, .float .f64 x] w fun e w' => e = .returned (.bool true) ∧ w = w' := by
  go_enter Try.func12, Try.ntmps12
  go_wp2
  go_ret
  exact ⟨rfl, rfl⟩

theorem same_zero (x i : Nat) (w : World) (o1 : FloatKind.f64.format.order x x = some .eq) (o2 : FloatKind.f64.format.order x 0 = some .eq)
    (e1 : floatBits .quo .f64 4607182418800017408 x = some i) :
    Calls Try.prog 12 #[.float .f64 x, .float .f64 x] w fun e w' => e = .returned (.bool true) ∧ w = w' := by
  have k1 := fun w => run_float_arith (P := Try.prog) w .quo 22 .f64 _ _ i e1
  clear e1
  go_enter Try.func12, Try.ntmps12
  go_wp2
  go_ret
  exact ⟨rfl, rfl⟩

theorem same_any {x : Nat} {v : Int} (h : Fl.Is x v) (w : World) :
    Calls Try.prog 12 #[.float .f64 x, .float .f64 x] w fun e w' => e = .returned (.bool true) ∧ w = w' := by
  have o1 := ord_eq h h rfl
  rcases Int.lt_trichotomy v 0 with hv | hv | hv
  · exact same_nonzero x w o1 (by rw [ord_lt h Fl.zero0_is hv]; rfl)
  · have o2 := ord_eq h Fl.zero0_is hv
    subst hv
    rcases Fl.is_zero h with rfl | rfl
    · exact same_zero 0 9218868437227405312 w o1 o2 (by decide +kernel)
    · exact same_zero _ 18442240474082181120 w o1 o2 (by decide +kernel)
  · exact same_nonzero x w o1 (by rw [ord_gt h Fl.zero0_is hv]; rfl)

end Go.Proofs.Ytiabehlidnhgiaa
