/- The law FnTruncate returns true for every input. The truncated duration is a multiple on the same side. No condition beyond the kinds of the arguments. -/
import Derived.Test.YtjdapjamnnmaoaaRows
import Derived.WalkKit
import Derived.ProofKit
import Derived.OpenShut
import Derived.Test.YtjdapjamnnmaoaaNumPlain2
import Derived.Test.YtjdapjamnnmaoaaTruncIs
import Derived.Test.YtjdapjamnnmaoaaSizeW
import Derived.Test.YtjdapjamnnmaoaaMultIs
namespace Go.Proofs.Ytjdapjamnnmaoaa.fnTruncate
open Go.ChangeShapes Go.WideShapes Go.ChangeAt Go.RowKit
set_option linter.unusedVariables false

theorem walk (a0 : Int) (a1 : Int) (w0 : (Lit.int .i64 a0).wf = true) (w1 : (Lit.int .i64 a1).wf = true) (w : World) :
    Calls Try.prog 7 #[.int .i64 a0, .int .i64 a1] w fun e w' => e = .returned (.bool true) ∧ Grown w w' := by
  obtain ⟨b01, b02⟩ := bounds_of w0
  obtain ⟨b11, b12⟩ := bounds_of w1
  clear w0 w1
  by_cases hm : a1 ≤ 0
  · have H := Lib.hid (show trunc a0 a1 = a0 by unfold trunc; rw [if_pos hm])
    go_enter Try.func7, Try.ntmps7
    go_wp2_with fail
    refine (trunc_is _ b01 b02 b11 b12 H.out).mono ?_
    rintro e w' ⟨rfl, rfl⟩
    go_wp2
    go_ret
    exact ⟨rfl, Grown.refl _⟩
  · have hm' : 0 < a1 := by omega
    clear hm
    obtain ⟨t, ht⟩ : ∃ t, trunc a0 a1 = t := ⟨_, rfl⟩
    have tb := trunc_bounds (m := a1) b01 b02
    have tm := trunc_tmod (d := a0) hm'
    have tt := trunc_trunc (d := a0) hm'
    have ts := trunc_sign (d := a0) hm'
    rw [ht] at tb tm tt ts
    have H := Lib.hid ht
    have HT := Lib.hid tt
    clear ht tt
    obtain ⟨tb1, tb2⟩ := tb
    have HM := Lib.hid tm
    clear tm
    have z1 : 0 ≤ sized t ∧ sized t ≤ 9223372036854775808 := by unfold sized; split <;> omega
    have z2 : 0 ≤ sized a0 ∧ sized a0 ≤ 9223372036854775808 := by unfold sized; split <;> omega
    have z3 : sized t ≤ sized a0 ∧ sized a0 - sized t < a1 := by
      by_cases hd : 0 ≤ a0
      · have := ts.1 hd
        unfold sized
        rw [if_neg (by omega), if_neg (by omega)]
        omega
      · have := ts.2 (by omega)
        unfold sized
        split <;> split <;> omega
    obtain ⟨z11, z12⟩ := z1
    obtain ⟨z21, z22⟩ := z2
    obtain ⟨z31, z32⟩ := z3
    have sg : t ≠ 0 → (t < 0 ↔ a0 < 0) := by
      intro h0
      by_cases hd : 0 ≤ a0
      · have := ts.1 hd; omega
      · have := ts.2 (by omega); omega
    clear ts
    by_cases h0 : t = 0
    · clear sg
      subst h0
      go_enter Try.func7, Try.ntmps7
      go_wp2_with fail
      refine (trunc_is _ b01 b02 b11 b12 H.out).mono ?_
      rintro e w' ⟨rfl, rfl⟩
      go_wp2_with fail
      refine (mult_yes _ tb1 tb2 b11 b12 hm' HM.out).mono ?_
      rintro e w' ⟨rfl, rfl⟩
      go_wp2_with fail
      refine (size_any 0 _ tb1 tb2).mono ?_
      rintro e w' ⟨rfl, rfl⟩
      go_wp2_with fail
      refine (size_any a0 _ b01 b02).mono ?_
      rintro e w' ⟨rfl, rfl⟩
      go_wp2_with fail
      refine (size_any a0 _ b01 b02).mono ?_
      rintro e w' ⟨rfl, rfl⟩
      go_wp2_with fail
      refine (size_any 0 _ tb1 tb2).mono ?_
      rintro e w' ⟨rfl, rfl⟩
      go_wp2_with fail
      refine (trunc_is _ tb1 tb2 b11 b12 HT.out).mono ?_
      rintro e w' ⟨rfl, rfl⟩
      go_wp2
      go_ret
      exact ⟨rfl, Grown.refl _⟩
    · have hs := sg h0
      clear sg
      by_cases hd : a0 < 0
      · have ht0 : t < 0 := hs.2 hd
        clear hs h0
        go_enter Try.func7, Try.ntmps7
        go_wp2_with fail
        refine (trunc_is _ b01 b02 b11 b12 H.out).mono ?_
        rintro e w' ⟨rfl, rfl⟩
        go_wp2_with fail
        refine (mult_yes _ tb1 tb2 b11 b12 hm' HM.out).mono ?_
        rintro e w' ⟨rfl, rfl⟩
        go_wp2_with fail
        refine (size_any t _ tb1 tb2).mono ?_
        rintro e w' ⟨rfl, rfl⟩
        go_wp2_with fail
        refine (size_any a0 _ b01 b02).mono ?_
        rintro e w' ⟨rfl, rfl⟩
        go_wp2_with fail
        refine (size_any a0 _ b01 b02).mono ?_
        rintro e w' ⟨rfl, rfl⟩
        go_wp2_with fail
        refine (size_any t _ tb1 tb2).mono ?_
        rintro e w' ⟨rfl, rfl⟩
        go_wp2_with fail
        refine (trunc_is _ tb1 tb2 b11 b12 HT.out).mono ?_
        rintro e w' ⟨rfl, rfl⟩
        go_wp2
        go_ret
        exact ⟨rfl, Grown.refl _⟩
      · have ht0 : 0 < t := by omega
        clear hs h0
        go_enter Try.func7, Try.ntmps7
        go_wp2_with fail
        refine (trunc_is _ b01 b02 b11 b12 H.out).mono ?_
        rintro e w' ⟨rfl, rfl⟩
        go_wp2_with fail
        refine (mult_yes _ tb1 tb2 b11 b12 hm' HM.out).mono ?_
        rintro e w' ⟨rfl, rfl⟩
        go_wp2_with fail
        refine (size_any t _ tb1 tb2).mono ?_
        rintro e w' ⟨rfl, rfl⟩
        go_wp2_with fail
        refine (size_any a0 _ b01 b02).mono ?_
        rintro e w' ⟨rfl, rfl⟩
        go_wp2_with fail
        refine (size_any a0 _ b01 b02).mono ?_
        rintro e w' ⟨rfl, rfl⟩
        go_wp2_with fail
        refine (size_any t _ tb1 tb2).mono ?_
        rintro e w' ⟨rfl, rfl⟩
        go_wp2_with fail
        refine (trunc_is _ tb1 tb2 b11 b12 HT.out).mono ?_
        rintro e w' ⟨rfl, rfl⟩
        go_wp2
        go_ret
        exact ⟨rfl, Grown.refl _⟩

end Go.Proofs.Ytjdapjamnnmaoaa.fnTruncate
