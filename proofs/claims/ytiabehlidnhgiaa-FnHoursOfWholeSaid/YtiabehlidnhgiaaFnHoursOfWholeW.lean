/- The law FnHoursOfWhole returns true for every input. Quarters of a unit are counted as they are. No condition beyond the kinds of the arguments. -/
import Derived.Test.YtiabehlidnhgiaaRows
import Derived.WalkKit
import Derived.ProofKit
import Derived.OpenShut
import Derived.Test.YtiabehlidnhgiaaHoursW
import Derived.WalkLawsBesides
import Derived.Lib.Hide
namespace Go.Proofs.Ytiabehlidnhgiaa.fnHoursOfWhole
open Go.ChangeShapes Go.WideShapes Go.ChangeAt Go.RowKit
set_option linter.unusedVariables false

set_option maxHeartbeats 2000000 in
theorem walk (a0 : Int) (w0 : (Lit.int .i64 a0).wf = true) (w : World) :
    Calls Try.prog 8 #[.int .i64 a0] w fun e w' => e = .returned (.bool true) ∧ Grown w w' := by
  obtain ⟨b01, b02⟩ := bounds_of w0
  clear w0
  by_cases h1 : 10248184 < a0
  · go_enter Try.func8, Try.ntmps8
    go_wp2
    go_ret
    exact ⟨ret_bool (by first | rfl | (simp; done)), Grown.refl _⟩
  · by_cases h2 : a0 < -10248184
    · go_enter Try.func8, Try.ntmps8
      go_wp2
      go_ret
      exact ⟨ret_bool (by first | rfl | (simp; done)), Grown.refl _⟩
    · have h1' : a0 ≤ 10248184 := by omega
      have h2' : -10248184 ≤ a0 := by omega
      clear h1 h2
      have hB : a0.natAbs < 2 * Fl.B := Nat.lt_of_le_of_lt (show a0.natAbs ≤ 10248184 by omega) (by decide +kernel)
      obtain ⟨q, eq, iq⟩ := Fl.four_is a0 hB
      have e4 : floatOfInt .f64 4 = 4616189618054758400 := by decide +kernel
      rw [e4] at eq
      have kq := fun w => run_float_arith (P := Try.prog) w .quo 22 .f64 _ _ q eq
      clear eq e4
      obtain ⟨h1, i1, hc1⟩ := hours_any (d := a0 * 900000000000) (by omega) (by omega)
      have ho := ord_eq i1 iq (Fl.hv_quarters 3600000000000 900000000000 rfl (by decide) Fl.fq_hour.1 Fl.fq_hour.2.1 Fl.fq_hour.2.2 a0 hB)
      have H1 := Lib.hid hc1
      clear i1 hc1
      obtain ⟨m1, i1, mc1⟩ := minutes_any (d := a0 * 15000000000) (by omega) (by omega)
      have mo := ord_eq i1 iq (Fl.hv_quarters 60000000000 15000000000 rfl (by decide) Fl.fq_min.1 Fl.fq_min.2.1 Fl.fq_min.2.2 a0 hB)
      have M1 := Lib.hid mc1
      clear i1 mc1
      obtain ⟨s1, i1, sc1⟩ := seconds_any (d := a0 * 250000000) (by omega) (by omega)
      have so := ord_eq i1 iq (Fl.hv_quarters 1000000000 250000000 rfl (by decide) Fl.fq_sec.1 Fl.fq_sec.2.1 Fl.fq_sec.2.2 a0 hB)
      have S1 := Lib.hid sc1
      clear i1 sc1
      obtain ⟨y, iy, cy⟩ := hours_any (d := 3600000000000) (by omega) (by omega)
      have oy := ord_eq iy Fl.one_is (Fl.hv_one 3600000000000 (by decide))
      have CY := Lib.hid cy
      clear iy cy iq hB
      go_enter Try.func8, Try.ntmps8
      go_wp2_with fail
      refine (H1.out _).mono ?_
      rintro e w' ⟨rfl, rfl⟩
      go_wp2_with fail
      refine (M1.out _).mono ?_
      rintro e w' ⟨rfl, rfl⟩
      go_wp2_with fail
      refine (S1.out _).mono ?_
      rintro e w' ⟨rfl, rfl⟩
      go_wp2_with fail
      refine (CY.out _).mono ?_
      rintro e w' ⟨rfl, rfl⟩
      go_wp2
      go_ret
      exact ⟨ret_bool (by first | rfl | (simp; done)), Grown.refl _⟩

end Go.Proofs.Ytiabehlidnhgiaa.fnHoursOfWhole
