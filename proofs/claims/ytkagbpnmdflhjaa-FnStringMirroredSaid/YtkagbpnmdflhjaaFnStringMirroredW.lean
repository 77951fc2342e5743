/- The law FnStringMirrored returns true for every input. A minus sign ahead of the text. No condition beyond the kinds of the arguments. -/
import Derived.Test.YtkagbpnmdflhjaaRows
import Derived.WalkKit
import Derived.ProofKit
import Derived.OpenShut
import Derived.Test.YtkagbpnmdflhjaaStrIs
import Derived.Lib.Hide
namespace Go.Proofs.Ytkagbpnmdflhjaa.fnStringMirrored
open Go.ChangeShapes Go.WideShapes Go.ChangeAt Go.RowKit
set_option linter.unusedVariables false

set_option maxHeartbeats 2000000 in
theorem walk (a0 : Int) (w0 : (Lit.int .i64 a0).wf = true) (w : World) :
    Calls Try.prog 5 #[.int .i64 a0] w fun e w' => e = .returned (.bool true) ∧ Grown w w' := by
  obtain ⟨b01, b02⟩ := bounds_of w0
  clear w0
  have Z := Lib.hid str_zero
  by_cases h : a0 ≤ 0
  · go_enter Try.func5, Try.ntmps5
    go_wp2_with fail
    refine (string_is _ (by omega) (by omega) Z.out).mono ?_
    rintro e w' ⟨rfl, rfl⟩
    go_wp2
    go_ret
    exact ⟨ret_bool (by first | rfl | (simp; done)), grown_bw (Grown.refl _) _ _ _⟩
  · have h' : 0 < a0 := by omega
    clear h
    obtain ⟨l, hl⟩ : ∃ l, str a0 = l := ⟨_, rfl⟩
    have hn := str_neg h'
    have hz := (str_len b01 b02).2
    rw [hl] at hn hz
    have H := Lib.hid hl
    have N := Lib.hid hn
    clear hl hn
    go_enter Try.func5, Try.ntmps5
    go_wp2_with fail
    refine (string_is _ (by omega) (by omega) N.out).mono ?_
    rintro e w' ⟨rfl, rfl⟩
    go_wp2_with fail
    refine (string_is _ b01 b02 H.out).mono ?_
    rintro e w' ⟨rfl, rfl⟩
    go_wp2
    go_ret
    exact ⟨ret_bool (by rw [beq_iff_eq]; simp [ByteArray.toList_eq, ByteArray.data_append]), grown_bw (grown_bw (Grown.refl _) _ _ _) _ _ _⟩

end Go.Proofs.Ytkagbpnmdflhjaa.fnStringMirrored
