/- The law FnRoundOrTruncate returns true for every input. Rounding gives the truncated one or one step more, or the last one. No condition beyond the kinds of the arguments. -/
import Derived.Test.YtapbcdchalgafaaRows
import Derived.WalkKit
import Derived.ProofKit
import Derived.OpenShut
import Derived.Test.YtapbcdchalgafaaRoundIs
import Derived.Test.YtapbcdchalgafaaTruncIs
import Derived.Test.YtapbcdchalgafaaSizeIs
namespace Go.Proofs.Ytapbcdchalgafaa.fnRoundOrTruncate
open Go.ChangeShapes Go.WideShapes Go.ChangeAt Go.RowKit
set_option linter.unusedVariables false

set_option maxHeartbeats 2000000 in
theorem walk (a0 : Int) (a1 : Int) (w0 : (Lit.int .i64 a0).wf = true) (w1 : (Lit.int .i64 a1).wf = true) (w : World) :
    Calls Try.prog 8 #[.int .i64 a0, .int .i64 a1] w fun e w' => e = .returned (.bool true) ∧ Grown w w' := by
  obtain ⟨b01, b02⟩ := bounds_of w0
  obtain ⟨b11, b12⟩ := bounds_of w1
  clear w0 w1
  by_cases hm : a1 ≤ 0
  · have H := Lib.hid (round_zero (d := a0) hm)
    have HT := Lib.hid (trunc_zero (d := a0) hm)
    go_enter Try.func8, Try.ntmps8
    go_wp2_with fail
    refine (round_is _ b01 b02 b11 b12 H.out).mono ?_
    rintro e w' ⟨rfl, rfl⟩
    go_wp2_with fail
    refine (trunc_is _ b01 b02 b11 b12 HT.out).mono ?_
    rintro e w' ⟨rfl, rfl⟩
    go_wp2
    go_ret
    exact ⟨ret_bool (by first | rfl | (simp; omega)), Grown.refl _⟩
  · have hm' : 0 < a1 := by omega
    clear hm
    by_cases hd : 0 ≤ a0
    · have ht := trunc_pos hd hm'
      have rc := round_pos_cases hd hm'
      have rg := emod_rng hd hm'
      obtain ⟨t, hte⟩ : ∃ t, a0 % a1 = t := ⟨_, rfl⟩
      rw [hte] at ht rc rg
      have HT := Lib.hid ht
      clear ht hte
      obtain ⟨g1, g2, g3⟩ := rg
      rcases rc with ⟨c1, c2⟩ | ⟨c1, c2, c3⟩ | ⟨c1, c2, c3⟩
      · have H := Lib.hid c2
        have Z1 := Lib.hid (sized_pos hd)
        have Z2 := Lib.hid (sized_pos (show 0 ≤ a0 - t by omega))
        clear c2
        have hh : t ≤ a1 / 2 := by omega
        go_enter Try.func8, Try.ntmps8
        go_wp2_with fail
        refine (round_is _ b01 b02 b11 b12 H.out).mono ?_
        rintro e w' ⟨rfl, rfl⟩
        go_wp2_with fail
        refine (trunc_is _ b01 b02 b11 b12 HT.out).mono ?_
        rintro e w' ⟨rfl, rfl⟩
        go_wp2_with fail
        refine (size_is _ b01 b02 Z1.out).mono ?_
        rintro e w' ⟨rfl, rfl⟩
        go_wp2_with fail
        refine (size_is _ (by omega) (by omega) Z2.out).mono ?_
        rintro e w' ⟨rfl, rfl⟩
        go_wp2
        go_ret
        exact ⟨ret_bool (by first | rfl | (simp; omega)), Grown.refl _⟩
      · have H := Lib.hid c2
        clear c2
        by_cases hq : a0 + a1 - t = 9223372036854775807
        · have H' : Hid (roundd a0 a1 = 9223372036854775807) := by have := H.out; exact this.trans hq
          have hs : a0 - t < 9223372036854775807 := by omega
          clear H hq
          go_enter Try.func8, Try.ntmps8
          go_wp2_with fail
          refine (round_is _ b01 b02 b11 b12 H'.out).mono ?_
          rintro e w' ⟨rfl, rfl⟩
          go_wp2_with fail
          refine (trunc_is _ b01 b02 b11 b12 HT.out).mono ?_
          rintro e w' ⟨rfl, rfl⟩
          go_wp2
          go_ret
          exact ⟨ret_bool (by first | rfl | (simp; omega)), Grown.refl _⟩
        · have hq' : a0 + a1 - t < 9223372036854775807 := by omega
          clear hq
          go_enter Try.func8, Try.ntmps8
          go_wp2_with fail
          refine (round_is _ b01 b02 b11 b12 H.out).mono ?_
          rintro e w' ⟨rfl, rfl⟩
          go_wp2_with fail
          refine (trunc_is _ b01 b02 b11 b12 HT.out).mono ?_
          rintro e w' ⟨rfl, rfl⟩
          go_wp2
          go_ret
          exact ⟨ret_bool (by first | rfl | (simp; omega)), Grown.refl _⟩
      · have H := Lib.hid c3
        clear c3
        have hs : a0 - t < 9223372036854775807 := by omega
        go_enter Try.func8, Try.ntmps8
        go_wp2_with fail
        refine (round_is _ b01 b02 b11 b12 H.out).mono ?_
        rintro e w' ⟨rfl, rfl⟩
        go_wp2_with fail
        refine (trunc_is _ b01 b02 b11 b12 HT.out).mono ?_
        rintro e w' ⟨rfl, rfl⟩
        go_wp2
        go_ret
        exact ⟨ret_bool (by first | rfl | (simp; omega)), Grown.refl _⟩
    · have hd' : a0 < 0 := by omega
      clear hd
      have ht := trunc_negd (d := a0) (by omega) hm'
      have rc := round_neg_cases hd' hm'
      have rg := emod_rng (d := -a0) (by omega) hm'
      obtain ⟨t, hte⟩ : ∃ t, (-a0) % a1 = t := ⟨_, rfl⟩
      rw [hte] at ht rc rg
      have HT := Lib.hid ht
      clear ht hte
      obtain ⟨g1, g2, g3⟩ := rg
      rcases rc with ⟨c1, c2⟩ | ⟨c1, c2, c3⟩ | ⟨c1, c2, c3⟩
      · have H := Lib.hid c2
        have Z1 := Lib.hid (sized_neg hd')
        have z2 : sized (a0 + t) = -a0 - t := by
          by_cases hz : a0 + t < 0
          · rw [sized_neg hz]; omega
          · rw [sized_pos (by omega)]; omega
        have Z2 := Lib.hid z2
        clear z2
        clear c2
        have hh : t ≤ a1 / 2 := by omega
        go_enter Try.func8, Try.ntmps8
        go_wp2_with fail
        refine (round_is _ b01 b02 b11 b12 H.out).mono ?_
        rintro e w' ⟨rfl, rfl⟩
        go_wp2_with fail
        refine (trunc_is _ b01 b02 b11 b12 HT.out).mono ?_
        rintro e w' ⟨rfl, rfl⟩
        go_wp2_with fail
        refine (size_is _ b01 b02 Z1.out).mono ?_
        rintro e w' ⟨rfl, rfl⟩
        go_wp2_with fail
        refine (size_is _ (by omega) (by omega) Z2.out).mono ?_
        rintro e w' ⟨rfl, rfl⟩
        go_wp2
        go_ret
        exact ⟨ret_bool (by first | rfl | (simp; omega)), Grown.refl _⟩
      · have H := Lib.hid c2
        clear c2
        by_cases hq : a0 - a1 + t = -9223372036854775808
        · have H' : Hid (roundd a0 a1 = -9223372036854775808) := by have := H.out; exact this.trans hq
          have hs : -9223372036854775808 < a0 + t := by omega
          clear H hq
          go_enter Try.func8, Try.ntmps8
          go_wp2_with fail
          refine (round_is _ b01 b02 b11 b12 H'.out).mono ?_
          rintro e w' ⟨rfl, rfl⟩
          go_wp2_with fail
          refine (trunc_is _ b01 b02 b11 b12 HT.out).mono ?_
          rintro e w' ⟨rfl, rfl⟩
          go_wp2
          go_ret
          exact ⟨ret_bool (by first | rfl | (simp; omega)), Grown.refl _⟩
        · have hq' : -9223372036854775808 < a0 - a1 + t := by omega
          clear hq
          go_enter Try.func8, Try.ntmps8
          go_wp2_with fail
          refine (round_is _ b01 b02 b11 b12 H.out).mono ?_
          rintro e w' ⟨rfl, rfl⟩
          go_wp2_with fail
          refine (trunc_is _ b01 b02 b11 b12 HT.out).mono ?_
          rintro e w' ⟨rfl, rfl⟩
          go_wp2
          go_ret
          exact ⟨ret_bool (by first | rfl | (simp; omega)), Grown.refl _⟩
      · have H := Lib.hid c3
        clear c3
        have hs : -9223372036854775808 < a0 + t := by omega
        go_enter Try.func8, Try.ntmps8
        go_wp2_with fail
        refine (round_is _ b01 b02 b11 b12 H.out).mono ?_
        rintro e w' ⟨rfl, rfl⟩
        go_wp2_with fail
        refine (trunc_is _ b01 b02 b11 b12 HT.out).mono ?_
        rintro e w' ⟨rfl, rfl⟩
        go_wp2
        go_ret
        exact ⟨ret_bool (by first | rfl | (simp; omega)), Grown.refl _⟩

end Go.Proofs.Ytapbcdchalgafaa.fnRoundOrTruncate
