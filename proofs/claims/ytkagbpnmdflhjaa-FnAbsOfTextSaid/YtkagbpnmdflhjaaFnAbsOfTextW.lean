/- The law FnAbsOfText returns true for every input. The text of the absolute value is that without its sign. No condition beyond the kinds of the arguments. -/
import Derived.Test.YtkagbpnmdflhjaaRows
import Derived.WalkKit
import Derived.ProofKit
import Derived.OpenShut
import Derived.Test.YtkagbpnmdflhjaaStrIs
import Derived.Test.YtkagbpnmdflhjaaAbsIs
import Derived.Lib.Hide
namespace Go.Proofs.Ytkagbpnmdflhjaa.fnAbsOfText
open Go.ChangeShapes Go.WideShapes Go.ChangeAt Go.RowKit
set_option linter.unusedVariables false

set_option maxHeartbeats 2000000 in
theorem walk (a0 : Int) (w0 : (Lit.int .i64 a0).wf = true) (w : World) :
    Calls Try.prog 11 #[.int .i64 a0] w fun e w' => e = .returned (.bool true) ∧ Grown w w' := by
  obtain ⟨b01, b02⟩ := bounds_of w0
  clear w0
  by_cases hl : a0 = -9223372036854775808
  · subst hl
    have e1 : str (-9223372036854775808) = [45, 50, 53, 54, 50, 48, 52, 55, 104, 52, 55, 109, 49, 54, 46, 56, 53, 52, 55, 55, 53, 56, 48, 56, 115] := by decide +kernel
    have e2 : str 9223372036854775807 = [50, 53, 54, 50, 48, 52, 55, 104, 52, 55, 109, 49, 54, 46, 56, 53, 52, 55, 55, 53, 56, 48, 55, 115] := by decide +kernel
    have A := Lib.hid e1
    have B := Lib.hid e2
    have C := Lib.hid absd_low
    clear e1 e2
    go_enter Try.func11, Try.ntmps11
    go_wp2_with fail
    refine (string_is _ b01 b02 A.out).mono ?_
    rintro e w' ⟨rfl, rfl⟩
    go_wp2_with fail
    refine (abs_is _ b01 b02 C.out).mono ?_
    rintro e w' ⟨rfl, rfl⟩
    go_wp2_with fail
    refine (string_is _ (by omega) (by omega) B.out).mono ?_
    rintro e w' ⟨rfl, rfl⟩
    go_wp2
    go_ret
    exact ⟨ret_bool (by first | rfl | (simp; done)), grown_bw (grown_bw (Grown.refl _) _ _ _) _ _ _⟩
  · have hl' : -9223372036854775808 < a0 := by omega
    clear hl
    obtain ⟨la, ea⟩ : ∃ l, str a0 = l := ⟨_, rfl⟩
    have na : la.isEmpty = false := by
      have := (str_len b01 b02).1
      rw [ea] at this
      cases la with
      | nil => simp at this
      | cons c t => rfl
    have A := Lib.hid ea
    by_cases hd : a0 < 0
    · have hn := str_neg (d := -a0) (by omega)
      rw [Int.neg_neg, ea] at hn
      obtain ⟨lb, eb⟩ : ∃ l, str (-a0) = l := ⟨_, rfl⟩
      rw [eb] at hn
      subst hn
      have B := Lib.hid eb
      have C := Lib.hid (absd_neg hd hl')
      clear ea eb
      go_enter Try.func11, Try.ntmps11
      go_wp2_with fail
      refine (string_is _ b01 b02 A.out).mono ?_
      rintro e w' ⟨rfl, rfl⟩
      go_wp2_with fail
      refine (abs_is _ b01 b02 C.out).mono ?_
      rintro e w' ⟨rfl, rfl⟩
      go_wp2_with fail
      refine (string_is _ (by omega) (by omega) B.out).mono ?_
      rintro e w' ⟨rfl, rfl⟩
      go_wp2
      go_ret
      exact ⟨ret_bool (by first | rfl | (rw [beq_iff_eq]; simp [ByteArray.toList_eq]; done)), grown_bw (grown_bw (Grown.refl _) _ _ _) _ _ _⟩
    · have hd' : 0 ≤ a0 := by omega
      clear hd
      have C := Lib.hid (absd_pos hd')
      clear ea
      go_enter Try.func11, Try.ntmps11
      go_wp2_with fail
      refine (string_is _ b01 b02 A.out).mono ?_
      rintro e w' ⟨rfl, rfl⟩
      go_wp2_with fail
      refine (abs_is _ b01 b02 C.out).mono ?_
      rintro e w' ⟨rfl, rfl⟩
      go_wp2_with fail
      refine (string_is _ b01 b02 A.out).mono ?_
      rintro e w' ⟨rfl, rfl⟩
      go_wp2
      go_ret
      exact ⟨ret_bool (by first | rfl | (simp; done)), grown_bw (grown_bw (Grown.refl _) _ _ _) _ _ _⟩

end Go.Proofs.Ytkagbpnmdflhjaa.fnAbsOfText
