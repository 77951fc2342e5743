/- The law FnTruncateTwice returns true for every input. Truncating twice is truncating once. No condition beyond the kinds of the arguments. -/
import Derived.Test.YtjdapjamnnmaoaaRows
import Derived.WalkKit
import Derived.ProofKit
import Derived.OpenShut
import Derived.Test.YtjdapjamnnmaoaaNumPlain2
import Derived.Test.YtjdapjamnnmaoaaTruncIs
namespace Go.Proofs.Ytjdapjamnnmaoaa.fnTruncateTwice
open Go.ChangeShapes Go.WideShapes Go.ChangeAt Go.RowKit
set_option linter.unusedVariables false

theorem walk (a0 : Int) (a1 : Int) (a2 : Int) (w0 : (Lit.int .i64 a0).wf = true) (w1 : (Lit.int .i64 a1).wf = true) (w2 : (Lit.int .i64 a2).wf = true) (w : World) :
    Calls Try.prog 9 #[.int .i64 a0, .int .i64 a1, .int .i64 a2] w fun e w' => e = .returned (.bool true) ∧ Grown w w' := by
  obtain ⟨b01, b02⟩ := bounds_of w0
  obtain ⟨b11, b12⟩ := bounds_of w1
  obtain ⟨b21, b22⟩ := bounds_of w2
  clear w0 w1 w2
  by_cases h1 : a1 < 1
  · go_enter Try.func9, Try.ntmps9
    go_wp2
    go_ret
    exact ⟨rfl, Grown.refl _⟩
  · by_cases h2 : a2 < 1
    · have h1' : 1 ≤ a1 := by omega
      clear h1
      go_enter Try.func9, Try.ntmps9
      go_wp2
      go_ret
      exact ⟨rfl, Grown.refl _⟩
    · have h1' : 1 ≤ a1 := by omega
      have h2' : 1 ≤ a2 := by omega
      clear h1 h2
      by_cases h3 : 9223372036854775807 / a1 < a2
      · go_enter Try.func9, Try.ntmps9
        go_wp2
        go_ret
        exact ⟨rfl, Grown.refl _⟩
      · have hp : a1 * a2 ≤ 9223372036854775807 := by
          have q1 : a2 ≤ 9223372036854775807 / a1 := by omega
          have q2 := Int.mul_le_mul_of_nonneg_left q1 (show 0 ≤ a1 by omega)
          have q3 := Int.mul_ediv_add_emod 9223372036854775807 a1
          have q4 := Int.emod_nonneg 9223372036854775807 (show a1 ≠ 0 by omega)
          omega
        have hq : 1 ≤ a1 * a2 := by
          have := Int.mul_le_mul_of_nonneg_left h2' (show 0 ≤ a1 by omega)
          omega
        have h3' : a2 ≤ 9223372036854775807 / a1 := by omega
        clear h3
        have tw := trunc_twice (d := a0) h1' h2'
        have tm : trunc a1 a1 = a1 := by unfold trunc; rw [if_neg (by omega), Int.tmod_self]; omega
        obtain ⟨tb1, tb2⟩ := trunc_bounds (m := a1) b01 b02
        obtain ⟨t, ht⟩ : ∃ t, trunc a0 a1 = t := ⟨_, rfl⟩
        obtain ⟨q, hqe⟩ : ∃ q, trunc a0 (a1 * a2) = q := ⟨_, rfl⟩
        rw [ht] at tb1 tb2 tw
        rw [hqe] at tw
        have H := Lib.hid ht
        have HT := Lib.hid tw
        have HQ := Lib.hid hqe
        have HM := Lib.hid tm
        clear ht tw hqe tm
        go_enter Try.func9, Try.ntmps9
        go_wp2_with fail
        refine (trunc_is _ b01 b02 b11 b12 H.out).mono ?_
        rintro e w' ⟨rfl, rfl⟩
        go_wp2_with fail
        refine (trunc_is _ tb1 tb2 (by omega) hp HT.out).mono ?_
        rintro e w' ⟨rfl, rfl⟩
        go_wp2_with fail
        refine (trunc_is _ b01 b02 (by omega) hp HQ.out).mono ?_
        rintro e w' ⟨rfl, rfl⟩
        go_wp2_with fail
        refine (trunc_is _ b11 b12 b11 b12 HM.out).mono ?_
        rintro e w' ⟨rfl, rfl⟩
        go_wp2
        go_ret
        exact ⟨rfl, Grown.refl _⟩

end Go.Proofs.Ytjdapjamnnmaoaa.fnTruncateTwice
