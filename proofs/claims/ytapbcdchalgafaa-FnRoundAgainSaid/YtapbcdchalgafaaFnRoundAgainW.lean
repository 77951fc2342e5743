/- The law FnRoundAgain returns true for every input. A multiple is rounded to itself. No condition beyond the kinds of the arguments. -/
import Derived.Test.YtapbcdchalgafaaRows
import Derived.WalkKit
import Derived.ProofKit
import Derived.OpenShut
import Derived.Test.YtapbcdchalgafaaRoundIs
import Derived.Test.YtapbcdchalgafaaMultIs
namespace Go.Proofs.Ytapbcdchalgafaa.fnRoundAgain
open Go.ChangeShapes Go.WideShapes Go.ChangeAt Go.RowKit
set_option linter.unusedVariables false

theorem walk (a0 : Int) (a1 : Int) (w0 : (Lit.int .i64 a0).wf = true) (w1 : (Lit.int .i64 a1).wf = true) (w : World) :
    Calls Try.prog 3 #[.int .i64 a0, .int .i64 a1] w fun e w' => e = .returned (.bool true) ∧ Grown w w' := by
  obtain ⟨b01, b02⟩ := bounds_of w0
  obtain ⟨b11, b12⟩ := bounds_of w1
  clear w0 w1
  by_cases hm : a1 ≤ 0
  · have H := Lib.hid (round_zero (d := a0) hm)
    go_enter Try.func3, Try.ntmps3
    go_wp2_with fail
    refine (round_is _ b01 b02 b11 b12 H.out).mono ?_
    rintro e w' ⟨rfl, rfl⟩
    go_wp2
    go_ret
    exact ⟨rfl, Grown.refl _⟩
  · have hm' : 0 < a1 := by omega
    clear hm
    by_cases hd : a0.tmod a1 = 0
    · have H := Lib.hid (round_mult hm' hd)
      have HD := Lib.hid hd
      clear hd
      go_enter Try.func3, Try.ntmps3
      go_wp2_with fail
      refine (round_is _ b01 b02 b11 b12 H.out).mono ?_
      rintro e w' ⟨rfl, rfl⟩
      go_wp2_with fail
      refine (mult_yes _ b01 b02 b11 b12 hm' HD.out).mono ?_
      rintro e w' ⟨rfl, rfl⟩
      go_wp2_with fail
      refine (round_is _ b01 b02 b11 b12 H.out).mono ?_
      rintro e w' ⟨rfl, rfl⟩
      go_wp2_with fail
      refine (mult_yes _ b01 b02 b11 b12 hm' HD.out).mono ?_
      rintro e w' ⟨rfl, rfl⟩
      go_wp2
      go_ret
      exact ⟨rfl, Grown.refl _⟩
    · have HD := Lib.hid hd
      clear hd
      obtain ⟨r1, r2⟩ := round_bounds (m := a1) b01 b02
      obtain ⟨r, hr⟩ : ∃ r, roundd a0 a1 = r := ⟨_, rfl⟩
      rw [hr] at r1 r2
      have H := Lib.hid hr
      clear hr
      by_cases hq : r.tmod a1 = 0
      · have H2 := Lib.hid (round_mult hm' hq)
        have HQ := Lib.hid hq
        clear hq
        go_enter Try.func3, Try.ntmps3
        go_wp2_with fail
        refine (round_is _ b01 b02 b11 b12 H.out).mono ?_
        rintro e w' ⟨rfl, rfl⟩
        go_wp2_with fail
        refine (mult_yes _ r1 r2 b11 b12 hm' HQ.out).mono ?_
        rintro e w' ⟨rfl, rfl⟩
        go_wp2_with fail
        refine (round_is _ r1 r2 b11 b12 H2.out).mono ?_
        rintro e w' ⟨rfl, rfl⟩
        go_wp2_with fail
        refine (mult_no _ b01 b02 b11 b12 hm' HD.out).mono ?_
        rintro e w' ⟨rfl, rfl⟩
        go_wp2
        go_ret
        exact ⟨rfl, Grown.refl _⟩
      · have HQ := Lib.hid hq
        clear hq
        go_enter Try.func3, Try.ntmps3
        go_wp2_with fail
        refine (round_is _ b01 b02 b11 b12 H.out).mono ?_
        rintro e w' ⟨rfl, rfl⟩
        go_wp2_with fail
        refine (mult_no _ r1 r2 b11 b12 hm' HQ.out).mono ?_
        rintro e w' ⟨rfl, rfl⟩
        go_wp2_with fail
        refine (mult_no _ b01 b02 b11 b12 hm' HD.out).mono ?_
        rintro e w' ⟨rfl, rfl⟩
        go_wp2
        go_ret
        exact ⟨rfl, Grown.refl _⟩

end Go.Proofs.Ytapbcdchalgafaa.fnRoundAgain
