/- The law FnStringsDiffer returns true for every input. Texts are read back, so different durations have different ones. No condition beyond the kinds of the arguments. -/
import Derived.Test.YtkagbpnmdflhjaaRows
import Derived.WalkKit
import Derived.ProofKit
import Derived.OpenShut
import Derived.Test.YtkagbpnmdflhjaaStrIs
import Derived.Test.YtkagbpnmdflhjaaParseStr
import Derived.Lib.Hide
namespace Go.Proofs.Ytkagbpnmdflhjaa.fnStringsDiffer
open Go.ChangeShapes Go.WideShapes Go.ChangeAt Go.RowKit
set_option linter.unusedVariables false

set_option maxHeartbeats 2000000 in
theorem walk (a0 : Int) (a1 : Int) (w0 : (Lit.int .i64 a0).wf = true) (w1 : (Lit.int .i64 a1).wf = true) (w : World) :
    Calls Try.prog 10 #[.int .i64 a0, .int .i64 a1] w fun e w' => e = .returned (.bool true) ∧ Grown w w' := by
  obtain ⟨b01, b02⟩ := bounds_of w0
  obtain ⟨b11, b12⟩ := bounds_of w1
  clear w0 w1
  obtain ⟨la, ea⟩ : ∃ l, str a0 = l := ⟨_, rfl⟩
  obtain ⟨lb, eb⟩ : ∃ l, str a1 = l := ⟨_, rfl⟩
  have na : la.isEmpty = false := by
    have := (str_len b01 b02).1
    rw [ea] at this
    cases la with
    | nil => simp at this
    | cons c t => rfl
  have A := Lib.hid ea
  have B := Lib.hid eb
  by_cases h : a0 = a1
  · subst h
    have e : la = lb := by rw [← ea, ← eb]
    subst e
    clear ea eb
    go_enter Try.func10, Try.ntmps10
    go_wp2_with fail
    refine (string_is _ b01 b02 A.out).mono ?_
    rintro e w' ⟨rfl, rfl⟩
    go_wp2_with fail
    refine (string_is _ b01 b02 B.out).mono ?_
    rintro e w' ⟨rfl, rfl⟩
    go_wp2
    go_ret
    exact ⟨ret_bool (by first | rfl | (simp; done)), grown_bw (grown_bw (Grown.refl _) _ _ _) _ _ _⟩
  · have e : (la == lb) = false := by
      rw [beq_eq_false_iff_ne]
      intro e
      exact h (str_inj b01 b02 b11 b12 (by rw [ea, eb, e]))
    have h' : (a0 == a1) = false := by rw [beq_eq_false_iff_ne]; exact h
    clear ea eb h
    go_enter Try.func10, Try.ntmps10
    go_wp2_with fail
    refine (string_is _ b01 b02 A.out).mono ?_
    rintro e w' ⟨rfl, rfl⟩
    go_wp2_with fail
    refine (string_is _ b11 b12 B.out).mono ?_
    rintro e w' ⟨rfl, rfl⟩
    go_wp2
    go_ret
    exact ⟨ret_bool (by first | rfl | (simp; done)), grown_bw (grown_bw (Grown.refl _) _ _ _) _ _ _⟩

end Go.Proofs.Ytkagbpnmdflhjaa.fnStringsDiffer
