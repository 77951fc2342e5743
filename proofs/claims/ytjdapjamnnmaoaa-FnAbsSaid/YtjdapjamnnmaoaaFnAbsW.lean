/- The law FnAbs returns true for every input. Four kinds of a duration, each walked. No condition beyond the kinds of the arguments. -/
import Derived.Test.YtjdapjamnnmaoaaRows
import Derived.WalkKit
import Derived.ProofKit
import Derived.OpenShut
import Derived.Test.YtjdapjamnnmaoaaNumPlain
import Derived.Test.YtjdapjamnnmaoaaAbsIs
namespace Go.Proofs.Ytjdapjamnnmaoaa.fnAbs
open Go.ChangeShapes Go.WideShapes Go.ChangeAt Go.RowKit
set_option linter.unusedVariables false

theorem walk (a0 : Int) (w0 : (Lit.int .i64 a0).wf = true) (w : World) :
    Calls Try.prog 11 #[.int .i64 a0] w fun e w' => e = .returned (.bool true) ∧ Grown w w' := by
  obtain ⟨b01, b02⟩ := bounds_of w0
  clear w0
  rcases (show 0 < a0 ∨ a0 = 0 ∨ a0 = -9223372036854775808 ∨ (-9223372036854775808 < a0 ∧ a0 < 0) by omega) with hd | hd | hd | ⟨hd, hd'⟩
  · have H := Lib.hid (absd_pos (d := a0) (by omega))
    have H2 := Lib.hid (show absd (-a0) = a0 by rw [absd_neg (by omega) (by omega)]; omega)
    go_enter Try.func11, Try.ntmps11
    go_wp2_with fail
    refine (abs_is _ b01 b02 H.out).mono ?_
    rintro e w' ⟨rfl, rfl⟩
    go_wp2_with fail
    refine (abs_is _ b01 b02 H.out).mono ?_
    rintro e w' ⟨rfl, rfl⟩
    go_wp2_with fail
    refine (abs_is _ (by omega) (by omega) H2.out).mono ?_
    rintro e w' ⟨rfl, rfl⟩
    go_wp2
    go_ret
    exact ⟨rfl, Grown.refl _⟩
  · subst hd
    have H := Lib.hid (absd_pos (d := 0) (by omega))
    go_enter Try.func11, Try.ntmps11
    go_wp2_with fail
    refine (abs_is _ b01 b02 H.out).mono ?_
    rintro e w' ⟨rfl, rfl⟩
    go_wp2_with fail
    refine (abs_is _ b01 b02 H.out).mono ?_
    rintro e w' ⟨rfl, rfl⟩
    go_wp2_with fail
    refine (abs_is _ (by omega) (by omega) H.out).mono ?_
    rintro e w' ⟨rfl, rfl⟩
    go_wp2
    go_ret
    exact ⟨rfl, Grown.refl _⟩
  · subst hd
    have H := Lib.hid absd_low
    have H2 := Lib.hid (absd_pos (d := 9223372036854775807) (by omega))
    go_enter Try.func11, Try.ntmps11
    go_wp2_with fail
    refine (abs_is _ b01 b02 H.out).mono ?_
    rintro e w' ⟨rfl, rfl⟩
    go_wp2_with fail
    refine (abs_is _ (by omega) (by omega) H2.out).mono ?_
    rintro e w' ⟨rfl, rfl⟩
    go_wp2
    go_ret
    exact ⟨rfl, Grown.refl _⟩
  · have H := Lib.hid (absd_neg (d := a0) hd' hd)
    have H2 := Lib.hid (absd_pos (d := -a0) (by omega))
    go_enter Try.func11, Try.ntmps11
    go_wp2_with fail
    refine (abs_is _ b01 b02 H.out).mono ?_
    rintro e w' ⟨rfl, rfl⟩
    go_wp2_with fail
    refine (abs_is _ (by omega) (by omega) H2.out).mono ?_
    rintro e w' ⟨rfl, rfl⟩
    go_wp2_with fail
    refine (abs_is _ (by omega) (by omega) H2.out).mono ?_
    rintro e w' ⟨rfl, rfl⟩
    go_wp2
    go_ret
    exact ⟨rfl, Grown.refl _⟩

end Go.Proofs.Ytjdapjamnnmaoaa.fnAbs
