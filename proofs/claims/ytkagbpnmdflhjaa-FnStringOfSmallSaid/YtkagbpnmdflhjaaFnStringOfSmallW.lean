/- The law FnStringOfSmall returns true for every input. Whole seconds and smaller units. No condition beyond the kinds of the arguments. -/
import Derived.Test.YtkagbpnmdflhjaaRows
import Derived.WalkKit
import Derived.ProofKit
import Derived.OpenShut
import Derived.Test.YtkagbpnmdflhjaaStrWhole
import Derived.Lib.Hide
namespace Go.Proofs.Ytkagbpnmdflhjaa.fnStringOfSmall
open Go.ChangeShapes Go.WideShapes Go.ChangeAt Go.RowKit
set_option linter.unusedVariables false

set_option maxHeartbeats 2000000 in
theorem walk (a0 : Int) (w0 : (Lit.int .i64 a0).wf = true) (w : World) :
    Calls Try.prog 8 #[.int .i64 a0] w fun e w' => e = .returned (.bool true) ∧ Grown w w' := by
  obtain ⟨b01, b02⟩ := bounds_of w0
  clear w0
  by_cases q2 : a0 < 1
  · go_enter Try.func8, Try.ntmps8
    go_wp2
    go_ret
    exact ⟨ret_bool (by first | rfl | (simp; done)), Grown.refl _⟩
  · have p2 : 1 ≤ a0 := by omega
    clear q2
    by_cases q1 : 999 < a0
    · go_enter Try.func8, Try.ntmps8
      go_wp2
      go_ret
      exact ⟨ret_bool (by first | rfl | (simp; done)), Grown.refl _⟩
    · have p1 : a0 ≤ 999 := by omega
      clear q1
      have ns := str_nano a0.toNat (by omega) (by omega)
      rw [show (a0.toNat : Int) = a0 by omega] at ns
      have us := str_micro a0.toNat (by omega) (by omega)
      rw [show ((a0.toNat * 1000 : Nat) : Int) = a0 * 1000 by omega] at us
      have ms := str_milli a0.toNat (by omega) (by omega)
      rw [show ((a0.toNat * 1000000 : Nat) : Int) = a0 * 1000000 by omega] at ms
      obtain ⟨x, e0⟩ : ∃ x, dec a0.toNat = x := ⟨_, rfl⟩
      have z0 : x.length ≤ 20 := by rw [← e0]; exact dec_len (by omega) (by omega)
      have D0 := Lib.hid e0
      by_cases c : a0 < 60
      · have ss := str_sec a0.toNat (by omega) (by omega)
        rw [show ((a0.toNat * 1000000000 : Nat) : Int) = a0 * 1000000000 by omega] at ss
        rw [e0] at ss
        have SS := Lib.hid ss
        clear ss
        rw [e0] at ns us ms
        have NS := Lib.hid ns
        have US := Lib.hid us
        have MS := Lib.hid ms
        have f1 : (x ++ [110, 115] == (({ data := x.toArray } : ByteArray) ++ { data := #[110, 115] }).toList) = true := by rw [beq_iff_eq]; simp [ByteArray.toList_eq, ByteArray.data_append]
        have f2 : (x ++ [194, 181, 115] == (({ data := x.toArray } : ByteArray) ++ { data := #[194, 181, 115] }).toList) = true := by rw [beq_iff_eq]; simp [ByteArray.toList_eq, ByteArray.data_append]
        have f3 : (x ++ [109, 115] == (({ data := x.toArray } : ByteArray) ++ { data := #[109, 115] }).toList) = true := by rw [beq_iff_eq]; simp [ByteArray.toList_eq, ByteArray.data_append]
        have f4 : (x ++ [115] == (({ data := x.toArray } : ByteArray) ++ { data := #[115] }).toList) = true := by rw [beq_iff_eq]; simp [ByteArray.toList_eq, ByteArray.data_append]
        clear ns us ms e0
        go_enter Try.func8, Try.ntmps8
        go_wp2_with fail
        refine (decimal_is _ (by omega) (by omega) D0.out).mono ?_
        rintro e v1 ⟨rfl, g1⟩
        have G1 := Lib.hid g1
        clear g1
        go_wp2_with fail
        refine (string_is _ (by omega) (by omega) SS.out).mono ?_
        rintro e w' ⟨rfl, rfl⟩
        go_wp2_with fail
        refine (string_is _ (by omega) (by omega) NS.out).mono ?_
        rintro e w' ⟨rfl, rfl⟩
        go_wp2_with fail
        refine (string_is _ (by omega) (by omega) US.out).mono ?_
        rintro e w' ⟨rfl, rfl⟩
        go_wp2_with fail
        refine (string_is _ (by omega) (by omega) MS.out).mono ?_
        rintro e w' ⟨rfl, rfl⟩
        go_wp2
        go_ret
        exact ⟨ret_bool (by first | rfl | (rw [beq_iff_eq]; simp [ByteArray.toList_eq, ByteArray.data_append]; done)), grown_bw (grown_bw (grown_bw (grown_bw (grown_trans (Grown.refl _) G1.out) _ _ _) _ _ _) _ _ _) _ _ _⟩
      · have c' : 60 ≤ a0 := by omega
        clear c
        rw [e0] at ns us ms
        have NS := Lib.hid ns
        have US := Lib.hid us
        have MS := Lib.hid ms
        have f1 : (x ++ [110, 115] == (({ data := x.toArray } : ByteArray) ++ { data := #[110, 115] }).toList) = true := by rw [beq_iff_eq]; simp [ByteArray.toList_eq, ByteArray.data_append]
        have f2 : (x ++ [194, 181, 115] == (({ data := x.toArray } : ByteArray) ++ { data := #[194, 181, 115] }).toList) = true := by rw [beq_iff_eq]; simp [ByteArray.toList_eq, ByteArray.data_append]
        have f3 : (x ++ [109, 115] == (({ data := x.toArray } : ByteArray) ++ { data := #[109, 115] }).toList) = true := by rw [beq_iff_eq]; simp [ByteArray.toList_eq, ByteArray.data_append]
        have f4 : (x ++ [115] == (({ data := x.toArray } : ByteArray) ++ { data := #[115] }).toList) = true := by rw [beq_iff_eq]; simp [ByteArray.toList_eq, ByteArray.data_append]
        clear ns us ms e0
        go_enter Try.func8, Try.ntmps8
        go_wp2_with fail
        refine (decimal_is _ (by omega) (by omega) D0.out).mono ?_
        rintro e v1 ⟨rfl, g1⟩
        have G1 := Lib.hid g1
        clear g1
        go_wp2_with fail
        refine (string_is _ (by omega) (by omega) NS.out).mono ?_
        rintro e w' ⟨rfl, rfl⟩
        go_wp2_with fail
        refine (string_is _ (by omega) (by omega) US.out).mono ?_
        rintro e w' ⟨rfl, rfl⟩
        go_wp2_with fail
        refine (string_is _ (by omega) (by omega) MS.out).mono ?_
        rintro e w' ⟨rfl, rfl⟩
        go_wp2
        go_ret
        exact ⟨ret_bool (by first | rfl | (rw [beq_iff_eq]; simp [ByteArray.toList_eq, ByteArray.data_append]; done)), grown_bw (grown_bw (grown_bw (grown_trans (Grown.refl _) G1.out) _ _ _) _ _ _) _ _ _⟩

end Go.Proofs.Ytkagbpnmdflhjaa.fnStringOfSmall
