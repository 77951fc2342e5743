/- impl.Seconds returns a finite word that stands for the plain hv of Fl, and impl.Milliseconds the quotient, for every int64; both leave the world alone. -/
import Derived.Test.YteejjhdfebhagaaDoorRows
import Derived.WalkKit
import Derived.WalkLawsBesides
import Derived.ProofKit
import Derived.OpenShut
import Derived.Deep.QuietTactic
import Derived.BigQuiet
import Derived.Lib.Hide
import Derived.Test.YteejjhdfebhagaaDoorNumPlain
import Derived.Test.YteejjhdfebhagaaDoorFl
namespace Go.Proofs.YteejjhdfebhagaaDoor
open Go.ChangeShapes Go.WideShapes Go.ChangeAt Go.RowKit
set_option linter.unusedVariables false

theorem seconds_run (d : Int) (f z : Nat) (w : World) (h1 : -9223372036854775808 ≤ d) (h2 : d ≤ 9223372036854775807)
    (e1 : floatBits .quo .f64 (floatOfInt .f64 (d.tmod 1000000000)) 4741671816366391296 = some f)
    (e2 : floatBits .add .f64 (floatOfInt .f64 (d.tdiv 1000000000)) f = some z) :
    Calls Tryd.prog 21 #[.int .i64 d] w fun e w' => e = .returned (.float .f64 z) ∧ w = w' := by
  have k1 := fun w => run_float_arith (P := Tryd.prog) w .quo 30 .f64 _ _ f e1
  have k2 := fun w => run_float_arith (P := Tryd.prog) w .add 30 .f64 _ _ z e2
  clear e1 e2
  go_enter Tryd.func21, Tryd.ntmps21
  go_wp2
  go_ret
  exact ⟨rfl, rfl⟩

theorem seconds_bits : floatOfInt .f64 1000000000 = 4741671816366391296 := by decide +kernel

theorem seconds_q {d : Int} (h1 : -9223372036854775808 ≤ d) (h2 : d ≤ 9223372036854775807) : (d.tdiv (1000000000 : Nat)).natAbs < 2 ^ 52 := by
  rw [Int.natAbs_tdiv]
  show d.natAbs / 1000000000 < 2 ^ 52
  omega

theorem seconds_ex {d : Int} (h1 : -9223372036854775808 ≤ d) (h2 : d ≤ 9223372036854775807) :
    ∃ f z, floatBits .quo .f64 (floatOfInt .f64 (d.tmod 1000000000)) 4741671816366391296 = some f ∧ floatBits .add .f64 (floatOfInt .f64 (d.tdiv 1000000000)) f = some z ∧ Fl.Is z (Fl.hv 1000000000 d) := by
  have h := Fl.hours_is 1000000000 (by decide) (by decide) d (seconds_q h1 h2)
  rw [show ((1000000000 : Nat) : Int) = 1000000000 from rfl, seconds_bits] at h
  exact h

/-- A word that stands for the count, and that the call returns it. -/
theorem seconds_any {d : Int} (h1 : -9223372036854775808 ≤ d) (h2 : d ≤ 9223372036854775807) :
    ∃ z, Fl.Is z (Fl.hv 1000000000 d) ∧ ∀ w, Calls Tryd.prog 21 #[.int .i64 d] w fun e w' => e = .returned (.float .f64 z) ∧ w = w' := by
  obtain ⟨f, z, e1, e2, i⟩ := seconds_ex h1 h2
  exact ⟨z, i, fun w => seconds_run d f z w h1 h2 e1 e2⟩

theorem ord_eq {x y : Nat} {v u : Int} (hx : Fl.Is x v) (hy : Fl.Is y u) (h : v = u) : FloatKind.f64.format.order x y = some .eq := by
  have := Fl.order_is hx hy
  rw [Int.compare_eq_eq.2 h] at this
  exact this

theorem milli_any (d : Int) (w : World) (h1 : -9223372036854775808 ≤ d) (h2 : d ≤ 9223372036854775807) :
    Calls Tryd.prog 22 #[.int .i64 d] w fun e w' => e = .returned (.int .i64 (d.tdiv 1000000)) ∧ w = w' := by
  go_enter Tryd.func22, Tryd.ntmps22
  go_wp2
  go_ret
  exact ⟨rfl, rfl⟩


end Go.Proofs.YteejjhdfebhagaaDoor
