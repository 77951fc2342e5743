/- The law FnStringOfMinutes returns true for every input. Whole minutes and seconds. No condition beyond the kinds of the arguments. -/
import Derived.Test.YtkagbpnmdflhjaaRows
import Derived.WalkKit
import Derived.ProofKit
import Derived.OpenShut
import Derived.Test.YtkagbpnmdflhjaaStrWhole
import Derived.Lib.Hide
namespace Go.Proofs.Ytkagbpnmdflhjaa.fnStringOfMinutes
open Go.ChangeShapes Go.WideShapes Go.ChangeAt Go.RowKit
set_option linter.unusedVariables false

set_option maxHeartbeats 2000000 in
theorem walk (a0 : Int) (a1 : Int) (w0 : (Lit.int .i64 a0).wf = true) (w1 : (Lit.int .i64 a1).wf = true) (w : World) :
    Calls Try.prog 7 #[.int .i64 a0, .int .i64 a1] w fun e w' => e = .returned (.bool true) ∧ Grown w w' := by
  obtain ⟨b01, b02⟩ := bounds_of w0
  obtain ⟨b11, b12⟩ := bounds_of w1
  clear w0 w1
  by_cases q4 : a0 < 1
  · go_enter Try.func7, Try.ntmps7
    go_wp2
    go_ret
    exact ⟨ret_bool (by first | rfl | (simp; done)), Grown.refl _⟩
  · have p4 : 1 ≤ a0 := by omega
    clear q4
    by_cases q3 : 59 < a0
    · go_enter Try.func7, Try.ntmps7
      go_wp2
      go_ret
      exact ⟨ret_bool (by first | rfl | (simp; done)), Grown.refl _⟩
    · have p3 : a0 ≤ 59 := by omega
      clear q3
      by_cases q2 : a1 < 0
      · go_enter Try.func7, Try.ntmps7
        go_wp2
        go_ret
        exact ⟨ret_bool (by first | rfl | (simp; done)), Grown.refl _⟩
      · have p2 : 0 ≤ a1 := by omega
        clear q2
        by_cases q1 : 59 < a1
        · go_enter Try.func7, Try.ntmps7
          go_wp2
          go_ret
          exact ⟨ret_bool (by first | rfl | (simp; done)), Grown.refl _⟩
        · have p1 : a1 ≤ 59 := by omega
          clear q1
          have hs := str_ms a0.toNat a1.toNat (by omega) (by omega) (by omega)
          have e : (((a0.toNat * 60 + a1.toNat) * 1000000000 : Nat) : Int) = (a0 * 60 + a1) * 1000000000 := by omega
          rw [e] at hs
          clear e
          obtain ⟨x0, e0⟩ : ∃ x, dec a0.toNat = x := ⟨_, rfl⟩
          have z0 : x0.length ≤ 20 := by rw [← e0]; exact dec_len (by omega) (by omega)
          obtain ⟨x1, e1⟩ : ∃ x, dec a1.toNat = x := ⟨_, rfl⟩
          have z1 : x1.length ≤ 20 := by rw [← e1]; exact dec_len (by omega) (by omega)
          rw [e0, e1] at hs
          have S := Lib.hid hs
          have D0 := Lib.hid e0
          have D1 := Lib.hid e1
          clear hs e0 e1
          go_enter Try.func7, Try.ntmps7
          go_wp2_with fail
          refine (string_is _ (by omega) (by omega) S.out).mono ?_
          rintro e w' ⟨rfl, rfl⟩
          go_wp2_with fail
          refine (decimal_is _ (by omega) (by omega) D0.out).mono ?_
          rintro e v1 ⟨rfl, g1⟩
          have G1 := Lib.hid g1
          clear g1
          go_wp2_with fail
          refine (decimal_is _ (by omega) (by omega) D1.out).mono ?_
          rintro e v2 ⟨rfl, g2⟩
          have G2 := Lib.hid g2
          clear g2
          go_wp2
          go_ret
          exact ⟨ret_bool (by rw [beq_iff_eq]; simp [ByteArray.toList_eq, ByteArray.data_append]), grown_trans (grown_trans (grown_bw (Grown.refl _) _ _ _) G1.out) G2.out⟩

end Go.Proofs.Ytkagbpnmdflhjaa.fnStringOfMinutes
