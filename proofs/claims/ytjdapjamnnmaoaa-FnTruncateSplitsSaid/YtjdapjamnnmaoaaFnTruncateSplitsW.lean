/- The law FnTruncateSplits returns true for every input. The rest is truncated to 0. No condition beyond the kinds of the arguments. -/
import Derived.Test.YtjdapjamnnmaoaaRows
import Derived.WalkKit
import Derived.ProofKit
import Derived.OpenShut
import Derived.Test.YtjdapjamnnmaoaaNumPlain2
import Derived.Test.YtjdapjamnnmaoaaTruncIs
namespace Go.Proofs.Ytjdapjamnnmaoaa.fnTruncateSplits
open Go.ChangeShapes Go.WideShapes Go.ChangeAt Go.RowKit
set_option linter.unusedVariables false

theorem walk (a0 : Int) (a1 : Int) (w0 : (Lit.int .i64 a0).wf = true) (w1 : (Lit.int .i64 a1).wf = true) (w : World) :
    Calls Try.prog 8 #[.int .i64 a0, .int .i64 a1] w fun e w' => e = .returned (.bool true) ∧ Grown w w' := by
  obtain ⟨b01, b02⟩ := bounds_of w0
  obtain ⟨b11, b12⟩ := bounds_of w1
  clear w0 w1
  by_cases hm : a1 ≤ 0
  · have H := Lib.hid (show trunc a0 a1 = a0 by unfold trunc; rw [if_pos hm])
    have hm1 : a1 < 1 := by omega
    go_enter Try.func8, Try.ntmps8
    go_wp2_with fail
    refine (trunc_is _ b01 b02 b11 b12 H.out).mono ?_
    rintro e w' ⟨rfl, rfl⟩
    go_wp2
    go_ret
    exact ⟨rfl, Grown.refl _⟩
  · have hm' : 0 < a1 := by omega
    clear hm
    obtain ⟨t, ht⟩ : ∃ t, trunc a0 a1 = t := ⟨_, rfl⟩
    have tb := trunc_bounds (m := a1) b01 b02
    have ts := trunc_sign (d := a0) hm'
    have tr := trunc_rest (d := a0) hm'
    rw [ht] at tb ts tr
    have t1 : trunc a0 1 = a0 := by unfold trunc; rw [if_neg (by omega), Int.tmod_one]; omega
    have r1 : -9223372036854775808 ≤ a0 - t ∧ a0 - t ≤ 9223372036854775807 := by
      by_cases hd : 0 ≤ a0
      · have := ts.1 hd; omega
      · have := ts.2 (by omega); omega
    obtain ⟨r11, r12⟩ := r1
    obtain ⟨tb1, tb2⟩ := tb
    have H := Lib.hid ht
    have HT := Lib.hid tr
    have H1 := Lib.hid t1
    clear ht tr t1 ts
    go_enter Try.func8, Try.ntmps8
    go_wp2_with fail
    refine (trunc_is _ b01 b02 b11 b12 H.out).mono ?_
    rintro e w' ⟨rfl, rfl⟩
    go_wp2_with fail
    refine (trunc_is _ r11 r12 b11 b12 HT.out).mono ?_
    rintro e w' ⟨rfl, rfl⟩
    go_wp2_with fail
    refine (trunc_is _ b01 b02 (by omega) (by omega) H1.out).mono ?_
    rintro e w' ⟨rfl, rfl⟩
    go_wp2
    go_ret
    exact ⟨rfl, Grown.refl _⟩

end Go.Proofs.Ytjdapjamnnmaoaa.fnTruncateSplits
