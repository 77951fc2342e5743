/- impl.Hours, Minutes and Seconds: each returns a finite word that stands for the plain hv of Fl, for every int64, and leaves the world alone. -/
import Derived.Test.YtiabehlidnhgiaaRows
import Derived.WalkKit
import Derived.WalkLawsBesides
import Derived.ProofKit
import Derived.OpenShut
import Derived.Deep.QuietTactic
import Derived.BigQuiet
import Derived.Lib.Hide
import Derived.Test.YtiabehlidnhgiaaNumPlain
import Derived.Test.YtiabehlidnhgiaaFl
namespace Go.Proofs.Ytiabehlidnhgiaa
open Go.ChangeShapes Go.WideShapes Go.ChangeAt Go.RowKit
set_option linter.unusedVariables false

theorem hours_run (d : Int) (f z : Nat) (w : World) (h1 : -9223372036854775808 ≤ d) (h2 : d ≤ 9223372036854775807)
    (e1 : floatBits .quo .f64 (floatOfInt .f64 (d.tmod 3600000000000)) 4794699203894837248 = some f)
    (e2 : floatBits .add .f64 (floatOfInt .f64 (d.tdiv 3600000000000)) f = some z) :
    Calls Try.prog 11 #[.int .i64 d] w fun e w' => e = .returned (.float .f64 z) ∧ w = w' := by
  have k1 := fun w => run_float_arith (P := Try.prog) w .quo 22 .f64 _ _ f e1
  have k2 := fun w => run_float_arith (P := Try.prog) w .add 22 .f64 _ _ z e2
  clear e1 e2
  go_enter Try.func11, Try.ntmps11
  go_wp2
  go_ret
  exact ⟨rfl, rfl⟩

theorem hours_bits : floatOfInt .f64 3600000000000 = 4794699203894837248 := by decide +kernel

theorem hours_q {d : Int} (h1 : -9223372036854775808 ≤ d) (h2 : d ≤ 9223372036854775807) : (d.tdiv (3600000000000 : Nat)).natAbs < 2 ^ 52 := by
  rw [Int.natAbs_tdiv]
  show d.natAbs / 3600000000000 < 2 ^ 52
  omega

theorem hours_ex {d : Int} (h1 : -9223372036854775808 ≤ d) (h2 : d ≤ 9223372036854775807) :
    ∃ f z, floatBits .quo .f64 (floatOfInt .f64 (d.tmod 3600000000000)) 4794699203894837248 = some f ∧ floatBits .add .f64 (floatOfInt .f64 (d.tdiv 3600000000000)) f = some z ∧ Fl.Is z (Fl.hv 3600000000000 d) := by
  have h := Fl.hours_is 3600000000000 (by decide) (by decide) d (hours_q h1 h2)
  rw [show ((3600000000000 : Nat) : Int) = 3600000000000 from rfl, hours_bits] at h
  exact h

/-- A word that stands for the count, and that the call returns it. -/
theorem hours_any {d : Int} (h1 : -9223372036854775808 ≤ d) (h2 : d ≤ 9223372036854775807) :
    ∃ z, Fl.Is z (Fl.hv 3600000000000 d) ∧ ∀ w, Calls Try.prog 11 #[.int .i64 d] w fun e w' => e = .returned (.float .f64 z) ∧ w = w' := by
  obtain ⟨f, z, e1, e2, i⟩ := hours_ex h1 h2
  exact ⟨z, i, fun w => hours_run d f z w h1 h2 e1 e2⟩

theorem minutes_run (d : Int) (f z : Nat) (w : World) (h1 : -9223372036854775808 ≤ d) (h2 : d ≤ 9223372036854775807)
    (e1 : floatBits .quo .f64 (floatOfInt .f64 (d.tmod 60000000000)) 4768169126130614272 = some f)
    (e2 : floatBits .add .f64 (floatOfInt .f64 (d.tdiv 60000000000)) f = some z) :
    Calls Try.prog 14 #[.int .i64 d] w fun e w' => e = .returned (.float .f64 z) ∧ w = w' := by
  have k1 := fun w => run_float_arith (P := Try.prog) w .quo 22 .f64 _ _ f e1
  have k2 := fun w => run_float_arith (P := Try.prog) w .add 22 .f64 _ _ z e2
  clear e1 e2
  go_enter Try.func14, Try.ntmps14
  go_wp2
  go_ret
  exact ⟨rfl, rfl⟩

theorem minutes_bits : floatOfInt .f64 60000000000 = 4768169126130614272 := by decide +kernel

theorem minutes_q {d : Int} (h1 : -9223372036854775808 ≤ d) (h2 : d ≤ 9223372036854775807) : (d.tdiv (60000000000 : Nat)).natAbs < 2 ^ 52 := by
  rw [Int.natAbs_tdiv]
  show d.natAbs / 60000000000 < 2 ^ 52
  omega

theorem minutes_ex {d : Int} (h1 : -9223372036854775808 ≤ d) (h2 : d ≤ 9223372036854775807) :
    ∃ f z, floatBits .quo .f64 (floatOfInt .f64 (d.tmod 60000000000)) 4768169126130614272 = some f ∧ floatBits .add .f64 (floatOfInt .f64 (d.tdiv 60000000000)) f = some z ∧ Fl.Is z (Fl.hv 60000000000 d) := by
  have h := Fl.hours_is 60000000000 (by decide) (by decide) d (minutes_q h1 h2)
  rw [show ((60000000000 : Nat) : Int) = 60000000000 from rfl, minutes_bits] at h
  exact h

/-- A word that stands for the count, and that the call returns it. -/
theorem minutes_any {d : Int} (h1 : -9223372036854775808 ≤ d) (h2 : d ≤ 9223372036854775807) :
    ∃ z, Fl.Is z (Fl.hv 60000000000 d) ∧ ∀ w, Calls Try.prog 14 #[.int .i64 d] w fun e w' => e = .returned (.float .f64 z) ∧ w = w' := by
  obtain ⟨f, z, e1, e2, i⟩ := minutes_ex h1 h2
  exact ⟨z, i, fun w => minutes_run d f z w h1 h2 e1 e2⟩

theorem seconds_run (d : Int) (f z : Nat) (w : World) (h1 : -9223372036854775808 ≤ d) (h2 : d ≤ 9223372036854775807)
    (e1 : floatBits .quo .f64 (floatOfInt .f64 (d.tmod 1000000000)) 4741671816366391296 = some f)
    (e2 : floatBits .add .f64 (floatOfInt .f64 (d.tdiv 1000000000)) f = some z) :
    Calls Try.prog 16 #[.int .i64 d] w fun e w' => e = .returned (.float .f64 z) ∧ w = w' := by
  have k1 := fun w => run_float_arith (P := Try.prog) w .quo 22 .f64 _ _ f e1
  have k2 := fun w => run_float_arith (P := Try.prog) w .add 22 .f64 _ _ z e2
  clear e1 e2
  go_enter Try.func16, Try.ntmps16
  go_wp2
  go_ret
  exact ⟨rfl, rfl⟩

theorem seconds_bits : floatOfInt .f64 1000000000 = 4741671816366391296 := by decide +kernel

theorem seconds_q {d : Int} (h1 : -9223372036854775808 ≤ d) (h2 : d ≤ 9223372036854775807) : (d.tdiv (1000000000 : Nat)).natAbs < 2 ^ 52 := by
  rw [Int.natAbs_tdiv]
  show d.natAbs / 1000000000 < 2 ^ 52
  omega

theorem seconds_ex {d : Int} (h1 : -9223372036854775808 ≤ d) (h2 : d ≤ 9223372036854775807) :
    ∃ f z, floatBits .quo .f64 (floatOfInt .f64 (d.tmod 1000000000)) 4741671816366391296 = some f ∧ floatBits .add .f64 (floatOfInt .f64 (d.tdiv 1000000000)) f = some z ∧ Fl.Is z (Fl.hv 1000000000 d) := by
  have h := Fl.hours_is 1000000000 (by decide) (by decide) d (seconds_q h1 h2)
  rw [show ((1000000000 : Nat) : Int) = 1000000000 from rfl, seconds_bits] at h
  exact h

/-- A word that stands for the count, and that the call returns it. -/
theorem seconds_any {d : Int} (h1 : -9223372036854775808 ≤ d) (h2 : d ≤ 9223372036854775807) :
    ∃ z, Fl.Is z (Fl.hv 1000000000 d) ∧ ∀ w, Calls Try.prog 16 #[.int .i64 d] w fun e w' => e = .returned (.float .f64 z) ∧ w = w' := by
  obtain ⟨f, z, e1, e2, i⟩ := seconds_ex h1 h2
  exact ⟨z, i, fun w => seconds_run d f z w h1 h2 e1 e2⟩

theorem grown_drewN {W w : World} (h : Grown W w) (n : Nat) : Grown W (w.drewN n) := h

theorem ord_eq {x y : Nat} {v u : Int} (hx : Fl.Is x v) (hy : Fl.Is y u) (h : v = u) : FloatKind.f64.format.order x y = some .eq := by
  have := Fl.order_is hx hy
  rw [Int.compare_eq_eq.2 h] at this
  exact this
theorem ord_lt {x y : Nat} {v u : Int} (hx : Fl.Is x v) (hy : Fl.Is y u) (h : v < u) : FloatKind.f64.format.order x y = some .lt := by
  have := Fl.order_is hx hy
  rw [Int.compare_eq_lt.2 h] at this
  exact this
theorem ord_gt {x y : Nat} {v u : Int} (hx : Fl.Is x v) (hy : Fl.Is y u) (h : u < v) : FloatKind.f64.format.order x y = some .gt := by
  have := Fl.order_is hx hy
  rw [Int.compare_eq_gt.2 h] at this
  exact this

end Go.Proofs.Ytiabehlidnhgiaa
