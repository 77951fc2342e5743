/- The law FnHoursSign returns true for every input. The sign of the count is that of the duration. No condition beyond the kinds of the arguments. -/
import Derived.Test.YtiabehlidnhgiaaRows
import Derived.WalkKit
import Derived.ProofKit
import Derived.OpenShut
import Derived.Test.YtiabehlidnhgiaaHoursW
import Derived.WalkLawsBesides
import Derived.Lib.Hide
namespace Go.Proofs.Ytiabehlidnhgiaa.fnHoursSign
open Go.ChangeShapes Go.WideShapes Go.ChangeAt Go.RowKit
set_option linter.unusedVariables false

set_option maxHeartbeats 2000000 in
theorem walk (a0 : Int) (w0 : (Lit.int .i64 a0).wf = true) (w : World) :
    Calls Try.prog 9 #[.int .i64 a0] w fun e w' => e = .returned (.bool true) ∧ Grown w w' := by
  obtain ⟨b01, b02⟩ := bounds_of w0
  clear w0
  obtain ⟨h1, ih, hc⟩ := hours_any b01 b02
  obtain ⟨m1, im, mc⟩ := minutes_any b01 b02
  obtain ⟨s1, is, sc⟩ := seconds_any b01 b02
  have H1 := Lib.hid hc
  have M1 := Lib.hid mc
  have S1 := Lib.hid sc
  clear hc mc sc
  rcases Int.lt_trichotomy a0 0 with hd | hd | hd
  · have key : ∀ U : Nat, U ≠ 0 → U < 2 ^ 43 → Fl.hv U a0 < 0 := by
      intro U h0 hU
      have q1 := Fl.hv_neg U a0
      have q2 := Fl.hv_pos U h0 hU (-a0) (by omega)
      omega
    have oh := ord_lt ih Fl.zero0_is (key 3600000000000 (by decide) (by decide))
    have om := ord_lt im Fl.zero0_is (key 60000000000 (by decide) (by decide))
    have os := ord_lt is Fl.zero0_is (key 1000000000 (by decide) (by decide))
    clear key
    have f1 : decide (0 < a0) = false := decide_eq_false (by omega)
    have f2 : (a0 == 0) = false := beq_false_of_ne (by omega)
    clear ih im is
    go_enter Try.func9, Try.ntmps9
    go_wp2_with fail
    refine (H1.out _).mono ?_
    rintro e w' ⟨rfl, rfl⟩
    go_wp2_with fail
    refine (M1.out _).mono ?_
    rintro e w' ⟨rfl, rfl⟩
    go_wp2_with fail
    refine (S1.out _).mono ?_
    rintro e w' ⟨rfl, rfl⟩
    go_wp2
    refine wp_loop_rounds 4 ?_
    repeat (any_goals (rw [rounds_succ]; go_wp2))
    go_ret
    exact ⟨ret_bool (by first | rfl | (simp; done)), (Grown.refl _).alloc _ _⟩
  · subst hd
    have oh := ord_eq ih Fl.zero0_is (Fl.hv_zero 3600000000000)
    have om := ord_eq im Fl.zero0_is (Fl.hv_zero 60000000000)
    have os := ord_eq is Fl.zero0_is (Fl.hv_zero 1000000000)
    clear ih im is
    go_enter Try.func9, Try.ntmps9
    go_wp2_with fail
    refine (H1.out _).mono ?_
    rintro e w' ⟨rfl, rfl⟩
    go_wp2_with fail
    refine (M1.out _).mono ?_
    rintro e w' ⟨rfl, rfl⟩
    go_wp2_with fail
    refine (S1.out _).mono ?_
    rintro e w' ⟨rfl, rfl⟩
    go_wp2
    refine wp_loop_rounds 4 ?_
    repeat (any_goals (rw [rounds_succ]; go_wp2))
    go_ret
    exact ⟨ret_bool (by first | rfl | (simp; done)), (Grown.refl _).alloc _ _⟩
  · have oh := ord_gt ih Fl.zero0_is (Fl.hv_pos 3600000000000 (by decide) (by decide) a0 hd)
    have om := ord_gt im Fl.zero0_is (Fl.hv_pos 60000000000 (by decide) (by decide) a0 hd)
    have os := ord_gt is Fl.zero0_is (Fl.hv_pos 1000000000 (by decide) (by decide) a0 hd)
    clear ih im is
    go_enter Try.func9, Try.ntmps9
    go_wp2_with fail
    refine (H1.out _).mono ?_
    rintro e w' ⟨rfl, rfl⟩
    go_wp2_with fail
    refine (M1.out _).mono ?_
    rintro e w' ⟨rfl, rfl⟩
    go_wp2_with fail
    refine (S1.out _).mono ?_
    rintro e w' ⟨rfl, rfl⟩
    go_wp2
    refine wp_loop_rounds 4 ?_
    repeat (any_goals (rw [rounds_succ]; go_wp2))
    go_ret
    exact ⟨ret_bool (by first | rfl | (simp; done)), (Grown.refl _).alloc _ _⟩

end Go.Proofs.Ytiabehlidnhgiaa.fnHoursSign
