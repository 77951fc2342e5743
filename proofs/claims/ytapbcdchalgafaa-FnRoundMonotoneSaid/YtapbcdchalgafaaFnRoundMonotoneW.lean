/- The law FnRoundMonotone returns true for every input. Both keep the order. No condition beyond the kinds of the arguments. -/
import Derived.Test.YtapbcdchalgafaaRows
import Derived.WalkKit
import Derived.ProofKit
import Derived.OpenShut
import Derived.Test.YtapbcdchalgafaaRoundIs
import Derived.Test.YtapbcdchalgafaaTruncIs
namespace Go.Proofs.Ytapbcdchalgafaa.fnRoundMonotone
open Go.ChangeShapes Go.WideShapes Go.ChangeAt Go.RowKit
set_option linter.unusedVariables false

theorem walk (a0 : Int) (a1 : Int) (a2 : Int) (w0 : (Lit.int .i64 a0).wf = true) (w1 : (Lit.int .i64 a1).wf = true) (w2 : (Lit.int .i64 a2).wf = true) (w : World) :
    Calls Try.prog 7 #[.int .i64 a0, .int .i64 a1, .int .i64 a2] w fun e w' => e = .returned (.bool true) ∧ Grown w w' := by
  obtain ⟨b01, b02⟩ := bounds_of w0
  obtain ⟨b11, b12⟩ := bounds_of w1
  obtain ⟨b21, b22⟩ := bounds_of w2
  clear w0 w1 w2
  have h11 : roundd 1 1 = 1 := by decide +kernel
  have t11 : trunc 1 1 = 1 := by decide +kernel
  have H11 := Lib.hid h11
  have T11 := Lib.hid t11
  clear h11 t11
  obtain ⟨x, hx⟩ : ∃ x, roundd a0 a2 = x := ⟨_, rfl⟩
  obtain ⟨y, hy⟩ : ∃ y, roundd a1 a2 = y := ⟨_, rfl⟩
  obtain ⟨u, hu⟩ : ∃ u, trunc a0 a2 = u := ⟨_, rfl⟩
  obtain ⟨v, hv⟩ : ∃ v, trunc a1 a2 = v := ⟨_, rfl⟩
  by_cases h : a1 < a0
  · have m1 := round_mono (m := a2) b11 (show a1 ≤ a0 by omega) b02
    have m2 := trunc_mono (m := a2) (show a1 ≤ a0 by omega)
    rw [hx, hy] at m1
    rw [hu, hv] at m2
    have HX := Lib.hid hx
    have HY := Lib.hid hy
    have HU := Lib.hid hu
    have HV := Lib.hid hv
    clear hx hy hu hv
    go_enter Try.func7, Try.ntmps7
    go_wp2_with fail
    refine (round_is _ b01 b02 b21 b22 HX.out).mono ?_
    rintro e w' ⟨rfl, rfl⟩
    go_wp2_with fail
    refine (round_is _ b11 b12 b21 b22 HY.out).mono ?_
    rintro e w' ⟨rfl, rfl⟩
    go_wp2_with fail
    refine (trunc_is _ b01 b02 b21 b22 HU.out).mono ?_
    rintro e w' ⟨rfl, rfl⟩
    go_wp2_with fail
    refine (trunc_is _ b11 b12 b21 b22 HV.out).mono ?_
    rintro e w' ⟨rfl, rfl⟩
    go_wp2_with fail
    refine (round_is _ (by omega) (by omega) (by omega) (by omega) H11.out).mono ?_
    rintro e w' ⟨rfl, rfl⟩
    go_wp2_with fail
    refine (trunc_is _ (by omega) (by omega) (by omega) (by omega) T11.out).mono ?_
    rintro e w' ⟨rfl, rfl⟩
    go_wp2
    go_ret
    exact ⟨rfl, Grown.refl _⟩
  · have h' : a0 ≤ a1 := by omega
    clear h
    have m1 := round_mono (m := a2) b01 h' b12
    have m2 := trunc_mono (m := a2) h'
    rw [hx, hy] at m1
    rw [hu, hv] at m2
    have HX := Lib.hid hx
    have HY := Lib.hid hy
    have HU := Lib.hid hu
    have HV := Lib.hid hv
    clear hx hy hu hv
    go_enter Try.func7, Try.ntmps7
    go_wp2_with fail
    refine (round_is _ b01 b02 b21 b22 HX.out).mono ?_
    rintro e w' ⟨rfl, rfl⟩
    go_wp2_with fail
    refine (round_is _ b11 b12 b21 b22 HY.out).mono ?_
    rintro e w' ⟨rfl, rfl⟩
    go_wp2_with fail
    refine (trunc_is _ b01 b02 b21 b22 HU.out).mono ?_
    rintro e w' ⟨rfl, rfl⟩
    go_wp2_with fail
    refine (trunc_is _ b11 b12 b21 b22 HV.out).mono ?_
    rintro e w' ⟨rfl, rfl⟩
    go_wp2_with fail
    refine (round_is _ (by omega) (by omega) (by omega) (by omega) H11.out).mono ?_
    rintro e w' ⟨rfl, rfl⟩
    go_wp2_with fail
    refine (trunc_is _ (by omega) (by omega) (by omega) (by omega) T11.out).mono ?_
    rintro e w' ⟨rfl, rfl⟩
    go_wp2
    go_ret
    exact ⟨rfl, Grown.refl _⟩

end Go.Proofs.Ytapbcdchalgafaa.fnRoundMonotone
