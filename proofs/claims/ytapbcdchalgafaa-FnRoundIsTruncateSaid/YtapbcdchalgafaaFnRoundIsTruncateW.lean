/- The law FnRoundIsTruncate returns true for every input. Rounding is truncating with half of the step more. No condition beyond the kinds of the arguments. -/
import Derived.Test.YtapbcdchalgafaaRows
import Derived.WalkKit
import Derived.ProofKit
import Derived.OpenShut
import Derived.Test.YtapbcdchalgafaaRoundIs
import Derived.Test.YtapbcdchalgafaaTruncIs
namespace Go.Proofs.Ytapbcdchalgafaa.fnRoundIsTruncate
open Go.ChangeShapes Go.WideShapes Go.ChangeAt Go.RowKit
set_option linter.unusedVariables false

theorem walk (a0 : Int) (a1 : Int) (w0 : (Lit.int .i64 a0).wf = true) (w1 : (Lit.int .i64 a1).wf = true) (w : World) :
    Calls Try.prog 6 #[.int .i64 a0, .int .i64 a1] w fun e w' => e = .returned (.bool true) ∧ Grown w w' := by
  obtain ⟨b01, b02⟩ := bounds_of w0
  obtain ⟨b11, b12⟩ := bounds_of w1
  clear w0 w1
  by_cases h1 : a0 < 0
  · go_enter Try.func6, Try.ntmps6
    go_wp2
    go_ret
    exact ⟨rfl, Grown.refl _⟩
  · by_cases h2 : a1 < 1
    · go_enter Try.func6, Try.ntmps6
      go_wp2
      go_ret
      exact ⟨rfl, Grown.refl _⟩
    · by_cases h3 : 9223372036854775807 - a1 < a0
      · go_enter Try.func6, Try.ntmps6
        go_wp2
        go_ret
        exact ⟨rfl, Grown.refl _⟩
      · have e1 := round_is_trunc (d := a0) (m := a1) (by omega) (by omega) (by omega)
        have e2 : roundd a1 a1 = a1 := round_mult (by omega) (by rw [Int.tmod_self])
        have h1' : 0 ≤ a0 := by omega
        have h2' : 1 ≤ a1 := by omega
        have h3' : a0 ≤ 9223372036854775807 - a1 := by omega
        clear h1 h2 h3
        obtain ⟨t, ht⟩ : ∃ t, trunc (a0 + a1 / 2) a1 = t := ⟨_, rfl⟩
        rw [ht] at e1
        have H := Lib.hid e1
        have H2 := Lib.hid e2
        have HT := Lib.hid ht
        clear e1 e2 ht
        go_enter Try.func6, Try.ntmps6
        go_wp2_with fail
        refine (round_is _ b01 b02 b11 b12 H.out).mono ?_
        rintro e w' ⟨rfl, rfl⟩
        go_wp2_with fail
        refine (trunc_is _ (by omega) (by omega) b11 b12 HT.out).mono ?_
        rintro e w' ⟨rfl, rfl⟩
        go_wp2_with fail
        refine (round_is _ b11 b12 b11 b12 H2.out).mono ?_
        rintro e w' ⟨rfl, rfl⟩
        go_wp2
        go_ret
        exact ⟨rfl, Grown.refl _⟩

end Go.Proofs.Ytapbcdchalgafaa.fnRoundIsTruncate
