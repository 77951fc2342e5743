/- The law FnCounts returns true for every input. The counts are those of the truncated duration. No condition beyond the kinds of the arguments. -/
import Derived.Test.YtjdapjamnnmaoaaRows
import Derived.WalkKit
import Derived.ProofKit
import Derived.OpenShut
import Derived.Test.YtjdapjamnnmaoaaNumPlain2
import Derived.Test.YtjdapjamnnmaoaaTruncIs
import Derived.Test.YtjdapjamnnmaoaaCountsW
namespace Go.Proofs.Ytjdapjamnnmaoaa.fnCounts
open Go.ChangeShapes Go.WideShapes Go.ChangeAt Go.RowKit
set_option linter.unusedVariables false

theorem walk (a0 : Int) (w0 : (Lit.int .i64 a0).wf = true) (w : World) :
    Calls Try.prog 13 #[.int .i64 a0] w fun e w' => e = .returned (.bool true) ∧ Grown w w' := by
  obtain ⟨b01, b02⟩ := bounds_of w0
  clear w0
  have e1 : trunc a0 1000 = a0.tdiv 1000 * 1000 := by
    have := Int.mul_tdiv_add_tmod a0 1000
    unfold trunc; rw [if_neg (by omega)]; omega
  have e2 : trunc a0 1000000 = a0.tdiv 1000000 * 1000000 := by
    have := Int.mul_tdiv_add_tmod a0 1000000
    unfold trunc; rw [if_neg (by omega)]; omega
  have e3 : (a0.tdiv 1000).tdiv 1000 = a0.tdiv 1000000 := by
    have key : ∀ u : Int, 0 ≤ u → (u.tdiv 1000).tdiv 1000 = u.tdiv 1000000 := by
      intro u hu
      rw [Int.tdiv_eq_ediv_of_nonneg hu, Int.tdiv_eq_ediv_of_nonneg hu, Int.tdiv_eq_ediv_of_nonneg (by omega)]
      omega
    by_cases hd : 0 ≤ a0
    · exact key a0 hd
    · have := key (-a0) (by omega)
      rw [Int.neg_tdiv, Int.neg_tdiv, Int.neg_tdiv] at this
      omega
  have q1 : -9223372036854775808 ≤ a0.tdiv 1000 * 1000 ∧ a0.tdiv 1000 * 1000 ≤ 9223372036854775807 := by
    rw [← e1]; unfold trunc; rw [if_neg (by omega)]
    by_cases hd : 0 ≤ a0
    · have := tmod_pos (m := 1000) hd (by omega); omega
    · have := tmod_neg (d := a0) (m := 1000) (by omega) (by omega); omega
  have q2 : -9223372036854775808 ≤ a0.tdiv 1000000 * 1000000 ∧ a0.tdiv 1000000 * 1000000 ≤ 9223372036854775807 := by
    rw [← e2]; unfold trunc; rw [if_neg (by omega)]
    by_cases hd : 0 ≤ a0
    · have := tmod_pos (m := 1000000) hd (by omega); omega
    · have := tmod_neg (d := a0) (m := 1000000) (by omega) (by omega); omega
  obtain ⟨q11, q12⟩ := q1
  obtain ⟨q21, q22⟩ := q2
  have H1 := Lib.hid e1
  have H2 := Lib.hid e2
  clear e1 e2
  go_enter Try.func13, Try.ntmps13
  go_wp2_with fail
  refine (nano_any a0 _ b01 b02).mono ?_
  rintro e w' ⟨rfl, rfl⟩
  go_wp2_with fail
  refine (micro_any a0 _ b01 b02).mono ?_
  rintro e w' ⟨rfl, rfl⟩
  go_wp2_with fail
  refine (milli_any a0 _ b01 b02).mono ?_
  rintro e w' ⟨rfl, rfl⟩
  go_wp2_with fail
  refine (trunc_is _ b01 b02 (by omega) (by omega) H1.out).mono ?_
  rintro e w' ⟨rfl, rfl⟩
  go_wp2_with fail
  refine (trunc_is _ b01 b02 (by omega) (by omega) H2.out).mono ?_
  rintro e w' ⟨rfl, rfl⟩
  go_wp2_with fail
  refine (milli_any 1000000 _ (by omega) (by omega)).mono ?_
  rintro e w' ⟨rfl, rfl⟩
  go_wp2
  go_ret
  exact ⟨rfl, Grown.refl _⟩

end Go.Proofs.Ytjdapjamnnmaoaa.fnCounts
