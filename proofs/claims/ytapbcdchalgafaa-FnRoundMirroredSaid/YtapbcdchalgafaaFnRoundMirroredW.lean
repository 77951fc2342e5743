/- The law FnRoundMirrored returns true for every input. Rounding goes with the sign. No condition beyond the kinds of the arguments. -/
import Derived.Test.YtapbcdchalgafaaRows
import Derived.WalkKit
import Derived.ProofKit
import Derived.OpenShut
import Derived.Test.YtapbcdchalgafaaRoundIs
namespace Go.Proofs.Ytapbcdchalgafaa.fnRoundMirrored
open Go.ChangeShapes Go.WideShapes Go.ChangeAt Go.RowKit
set_option linter.unusedVariables false

set_option maxHeartbeats 2000000 in
theorem walk (a0 : Int) (a1 : Int) (w0 : (Lit.int .i64 a0).wf = true) (w1 : (Lit.int .i64 a1).wf = true) (w : World) :
    Calls Try.prog 4 #[.int .i64 a0, .int .i64 a1] w fun e w' => e = .returned (.bool true) ∧ Grown w w' := by
  obtain ⟨b01, b02⟩ := bounds_of w0
  obtain ⟨b11, b12⟩ := bounds_of w1
  clear w0 w1
  have h75 : roundd 7 5 = 5 := by decide +kernel
  have H75 := Lib.hid h75
  clear h75
  by_cases hl : a0 = -9223372036854775808
  · subst hl
    have hl1 : roundd (-9223372036854775808) 1 = -9223372036854775808 := by decide +kernel
    have H := Lib.hid hl1
    clear hl1
    go_enter Try.func4, Try.ntmps4
    go_wp2_with fail
    refine (round_is _ b01 b02 (by omega) (by omega) H.out).mono ?_
    rintro e w' ⟨rfl, rfl⟩
    go_wp2
    go_ret
    exact ⟨ret_bool (by first | rfl | (simp; omega)), Grown.refl _⟩
  · have hl' : -9223372036854775808 < a0 := by omega
    clear hl
    by_cases hm : a1 ≤ 0
    · have H := Lib.hid (round_zero (d := a0) hm)
      have H2 := Lib.hid (round_zero (d := -a0) hm)
      go_enter Try.func4, Try.ntmps4
      go_wp2_with fail
      refine (round_is _ b01 b02 b11 b12 H.out).mono ?_
      rintro e w' ⟨rfl, rfl⟩
      go_wp2_with fail
      refine (round_is _ (by omega) (by omega) b11 b12 H2.out).mono ?_
      rintro e w' ⟨rfl, rfl⟩
      go_wp2
      go_ret
      exact ⟨ret_bool (by first | rfl | (simp; omega)), Grown.refl _⟩
    · have hm' : 0 < a1 := by omega
      clear hm
      have key : (roundd a0 a1 = 9223372036854775807 ∧ roundd (-a0) a1 = -9223372036854775808) ∨ (roundd a0 a1 = -9223372036854775808 ∧ roundd (-a0) a1 = 9223372036854775807) ∨ (-9223372036854775808 < roundd a0 a1 ∧ roundd a0 a1 ≤ 9223372036854775807 ∧ roundd (-a0) a1 = -roundd a0 a1 ∧ (a0 = 0 → roundd a0 a1 = 0)) := by
        by_cases h0 : 0 ≤ a0
        · have rb := round_bounds (m := a1) b01 b02
          rcases round_mirror hm' h0 b02 with h | h
          · exact Or.inl h
          · exact Or.inr (Or.inr ⟨by omega, by omega, h.2.1, h.2.2.1⟩)
        · have rb := round_bounds (m := a1) b01 b02
          have rc := round_bounds (d := -a0) (m := a1) (by omega) (by omega)
          have e := round_mirror (d := -a0) hm' (by omega) (by omega)
          rw [Int.neg_neg] at e
          rcases e with h | h
          · exact Or.inr (Or.inl ⟨h.2, h.1⟩)
          · exact Or.inr (Or.inr ⟨by omega, by omega, by omega, by omega⟩)
      rcases key with ⟨k1, k2⟩ | ⟨k1, k2⟩ | ⟨k1, k2, k3, k4⟩
      · have H := Lib.hid k1
        have H2 := Lib.hid k2
        clear k1 k2
        go_enter Try.func4, Try.ntmps4
        go_wp2_with fail
        refine (round_is _ b01 b02 b11 b12 H.out).mono ?_
        rintro e w' ⟨rfl, rfl⟩
        go_wp2_with fail
        refine (round_is _ (by omega) (by omega) b11 b12 H2.out).mono ?_
        rintro e w' ⟨rfl, rfl⟩
        go_wp2
        go_ret
        exact ⟨ret_bool (by first | rfl | (simp; omega)), Grown.refl _⟩
      · have H := Lib.hid k1
        have H2 := Lib.hid k2
        clear k1 k2
        go_enter Try.func4, Try.ntmps4
        go_wp2_with fail
        refine (round_is _ b01 b02 b11 b12 H.out).mono ?_
        rintro e w' ⟨rfl, rfl⟩
        go_wp2_with fail
        refine (round_is _ (by omega) (by omega) b11 b12 H2.out).mono ?_
        rintro e w' ⟨rfl, rfl⟩
        go_wp2
        go_ret
        exact ⟨ret_bool (by first | rfl | (simp; omega)), Grown.refl _⟩
      · obtain ⟨r, hr⟩ : ∃ r, roundd a0 a1 = r := ⟨_, rfl⟩
        rw [hr] at k1 k2 k3 k4
        have H := Lib.hid hr
        have H2 := Lib.hid k3
        clear hr k3
        by_cases h0 : a0 = 0
        · have hr0 : r = 0 := k4 h0
          clear k4
          subst hr0
          subst h0
          go_enter Try.func4, Try.ntmps4
          go_wp2_with fail
          refine (round_is _ b01 b02 b11 b12 H.out).mono ?_
          rintro e w' ⟨rfl, rfl⟩
          go_wp2_with fail
          refine (round_is _ (by omega) (by omega) b11 b12 H2.out).mono ?_
          rintro e w' ⟨rfl, rfl⟩
          go_wp2_with fail
          refine (round_is _ (by omega) (by omega) (by omega) (by omega) H75.out).mono ?_
          rintro e w' ⟨rfl, rfl⟩
          go_wp2
          go_ret
          exact ⟨ret_bool (by first | rfl | (simp; omega)), Grown.refl _⟩
        · have h0' : a0 < 0 ∨ 0 < a0 := by omega
          clear k4 h0
          rcases h0' with h0 | h0
          · by_cases ht : r = 9223372036854775807
            · subst ht
              go_enter Try.func4, Try.ntmps4
              go_wp2_with fail
              refine (round_is _ b01 b02 b11 b12 H.out).mono ?_
              rintro e w' ⟨rfl, rfl⟩
              go_wp2_with fail
              refine (round_is _ (by omega) (by omega) b11 b12 H2.out).mono ?_
              rintro e w' ⟨rfl, rfl⟩
              go_wp2_with fail
              refine (round_is _ (by omega) (by omega) (by omega) (by omega) H75.out).mono ?_
              rintro e w' ⟨rfl, rfl⟩
              go_wp2
              go_ret
              exact ⟨ret_bool (by first | rfl | (simp; omega)), Grown.refl _⟩
            · by_cases ht2 : r = -9223372036854775807
              · subst ht2
                clear ht
                go_enter Try.func4, Try.ntmps4
                go_wp2_with fail
                refine (round_is _ b01 b02 b11 b12 H.out).mono ?_
                rintro e w' ⟨rfl, rfl⟩
                go_wp2_with fail
                refine (round_is _ (by omega) (by omega) b11 b12 H2.out).mono ?_
                rintro e w' ⟨rfl, rfl⟩
                go_wp2_with fail
                refine (round_is _ (by omega) (by omega) (by omega) (by omega) H75.out).mono ?_
                rintro e w' ⟨rfl, rfl⟩
                go_wp2
                go_ret
                exact ⟨ret_bool (by first | rfl | (simp; omega)), Grown.refl _⟩
              · have ht' : r < 9223372036854775807 := by omega
                have ht2' : -9223372036854775807 < r := by omega
                clear ht ht2
                go_enter Try.func4, Try.ntmps4
                go_wp2_with fail
                refine (round_is _ b01 b02 b11 b12 H.out).mono ?_
                rintro e w' ⟨rfl, rfl⟩
                go_wp2_with fail
                refine (round_is _ (by omega) (by omega) b11 b12 H2.out).mono ?_
                rintro e w' ⟨rfl, rfl⟩
                go_wp2_with fail
                refine (round_is _ (by omega) (by omega) (by omega) (by omega) H75.out).mono ?_
                rintro e w' ⟨rfl, rfl⟩
                go_wp2
                go_ret
                exact ⟨ret_bool (by first | rfl | (simp; omega)), Grown.refl _⟩
          · by_cases ht : r = 9223372036854775807
            · subst ht
              go_enter Try.func4, Try.ntmps4
              go_wp2_with fail
              refine (round_is _ b01 b02 b11 b12 H.out).mono ?_
              rintro e w' ⟨rfl, rfl⟩
              go_wp2_with fail
              refine (round_is _ (by omega) (by omega) b11 b12 H2.out).mono ?_
              rintro e w' ⟨rfl, rfl⟩
              go_wp2_with fail
              refine (round_is _ (by omega) (by omega) (by omega) (by omega) H75.out).mono ?_
              rintro e w' ⟨rfl, rfl⟩
              go_wp2
              go_ret
              exact ⟨ret_bool (by first | rfl | (simp; omega)), Grown.refl _⟩
            · by_cases ht2 : r = -9223372036854775807
              · subst ht2
                clear ht
                go_enter Try.func4, Try.ntmps4
                go_wp2_with fail
                refine (round_is _ b01 b02 b11 b12 H.out).mono ?_
                rintro e w' ⟨rfl, rfl⟩
                go_wp2_with fail
                refine (round_is _ (by omega) (by omega) b11 b12 H2.out).mono ?_
                rintro e w' ⟨rfl, rfl⟩
                go_wp2_with fail
                refine (round_is _ (by omega) (by omega) (by omega) (by omega) H75.out).mono ?_
                rintro e w' ⟨rfl, rfl⟩
                go_wp2
                go_ret
                exact ⟨ret_bool (by first | rfl | (simp; omega)), Grown.refl _⟩
              · have ht' : r < 9223372036854775807 := by omega
                have ht2' : -9223372036854775807 < r := by omega
                clear ht ht2
                go_enter Try.func4, Try.ntmps4
                go_wp2_with fail
                refine (round_is _ b01 b02 b11 b12 H.out).mono ?_
                rintro e w' ⟨rfl, rfl⟩
                go_wp2_with fail
                refine (round_is _ (by omega) (by omega) b11 b12 H2.out).mono ?_
                rintro e w' ⟨rfl, rfl⟩
                go_wp2_with fail
                refine (round_is _ (by omega) (by omega) (by omega) (by omega) H75.out).mono ?_
                rintro e w' ⟨rfl, rfl⟩
                go_wp2
                go_ret
                exact ⟨ret_bool (by first | rfl | (simp; omega)), Grown.refl _⟩

end Go.Proofs.Ytapbcdchalgafaa.fnRoundMirrored
