/- The law FnAbsOfRounded returns true for every input. The absolute value goes with both. No condition beyond the kinds of the arguments. -/
import Derived.Test.YtapbcdchalgafaaRows
import Derived.WalkKit
import Derived.ProofKit
import Derived.OpenShut
import Derived.Test.YtapbcdchalgafaaRoundIs
import Derived.Test.YtapbcdchalgafaaTruncIs
import Derived.Test.YtapbcdchalgafaaAbsIs
namespace Go.Proofs.Ytapbcdchalgafaa.fnAbsOfRounded
open Go.ChangeShapes Go.WideShapes Go.ChangeAt Go.RowKit
set_option linter.unusedVariables false

theorem abs_pos_case {d m : Int} (hd : 0 ≤ d) (h2 : d ≤ 9223372036854775807) : 0 ≤ trunc d m ∧ 0 ≤ roundd d m := by
  by_cases hm : m ≤ 0
  · rw [trunc_zero hm, round_zero hm]; exact ⟨hd, hd⟩
  · have hm' : 0 < m := by omega
    have s := (trunc_sign (d := d) hm').1 hd
    have c := round_pos_cases hd hm'
    have r := emod_rng hd hm'
    omega

theorem abs_neg_case {d m : Int} (hd : d < 0) (hl : -9223372036854775808 < d) : absd (trunc d m) = trunc (-d) m ∧ absd (roundd d m) = roundd (-d) m := by
  by_cases hm : m ≤ 0
  · rw [trunc_zero hm, round_zero hm, trunc_zero hm, round_zero hm]; exact ⟨absd_neg hd hl, absd_neg hd hl⟩
  · have hm' : 0 < m := by omega
    have s := (trunc_sign (d := d) hm').2 (by omega)
    constructor
    · rw [trunc_neg]
      by_cases h0 : trunc d m = 0
      · rw [h0]; decide +kernel
      · rw [absd_neg (by omega) (by omega)]
    · have k := round_mirror (d := -d) hm' (by omega) (by omega)
      rw [Int.neg_neg] at k
      rcases k with ⟨k1, k2⟩ | ⟨k1, k2, k3, k4⟩
      · rw [k1, k2]; exact absd_low
      · have rb := round_bounds (d := -d) (m := m) (by omega) (by omega)
        rw [k2]
        by_cases h0 : roundd (-d) m = 0
        · rw [h0]; decide +kernel
        · rw [absd_neg (by omega) (by omega), Int.neg_neg]

set_option maxHeartbeats 2000000 in
theorem walk (a0 : Int) (a1 : Int) (w0 : (Lit.int .i64 a0).wf = true) (w1 : (Lit.int .i64 a1).wf = true) (w : World) :
    Calls Try.prog 9 #[.int .i64 a0, .int .i64 a1] w fun e w' => e = .returned (.bool true) ∧ Grown w w' := by
  obtain ⟨b01, b02⟩ := bounds_of w0
  obtain ⟨b11, b12⟩ := bounds_of w1
  clear w0 w1
  have h5 : absd (-5) = 5 := by decide +kernel
  have H5 := Lib.hid h5
  clear h5
  by_cases hl : a0 = -9223372036854775808
  · subst hl
    have H := Lib.hid absd_low
    go_enter Try.func9, Try.ntmps9
    go_wp2_with fail
    refine (abs_is _ b01 b02 H.out).mono ?_
    rintro e w' ⟨rfl, rfl⟩
    go_wp2
    go_ret
    exact ⟨rfl, Grown.refl _⟩
  · have hl' : -9223372036854775808 < a0 := by omega
    clear hl
    obtain ⟨t1, t2⟩ := trunc_bounds (m := a1) b01 b02
    obtain ⟨r1, r2⟩ := round_bounds (m := a1) b01 b02
    by_cases hd : 0 ≤ a0
    · have k := abs_pos_case (m := a1) hd b02
      have HA := Lib.hid (absd_pos hd)
      obtain ⟨t, ht⟩ : ∃ t, trunc a0 a1 = t := ⟨_, rfl⟩
      obtain ⟨r, hr⟩ : ∃ r, roundd a0 a1 = r := ⟨_, rfl⟩
      rw [ht] at t1 t2 k
      rw [hr] at r1 r2 k
      have HT := Lib.hid ht
      have HR := Lib.hid hr
      have HTA := Lib.hid ht
      have HRA := Lib.hid hr
      have HAT := Lib.hid (absd_pos k.1)
      have HAR := Lib.hid (absd_pos k.2)
      clear ht hr k
      go_enter Try.func9, Try.ntmps9
      go_wp2_with fail
      refine (trunc_is _ b01 b02 b11 b12 HT.out).mono ?_
      rintro e w' ⟨rfl, rfl⟩
      go_wp2_with fail
      refine (round_is _ b01 b02 b11 b12 HR.out).mono ?_
      rintro e w' ⟨rfl, rfl⟩
      go_wp2_with fail
      refine (abs_is _ t1 t2 HAT.out).mono ?_
      rintro e w' ⟨rfl, rfl⟩
      go_wp2_with fail
      refine (abs_is _ b01 b02 HA.out).mono ?_
      rintro e w' ⟨rfl, rfl⟩
      go_wp2_with fail
      refine (trunc_is _ (by omega) (by omega) b11 b12 HTA.out).mono ?_
      rintro e w' ⟨rfl, rfl⟩
      go_wp2_with fail
      refine (abs_is _ r1 r2 HAR.out).mono ?_
      rintro e w' ⟨rfl, rfl⟩
      go_wp2_with fail
      refine (abs_is _ b01 b02 HA.out).mono ?_
      rintro e w' ⟨rfl, rfl⟩
      go_wp2_with fail
      refine (round_is _ (by omega) (by omega) b11 b12 HRA.out).mono ?_
      rintro e w' ⟨rfl, rfl⟩
      go_wp2_with fail
      refine (abs_is _ (by omega) (by omega) H5.out).mono ?_
      rintro e w' ⟨rfl, rfl⟩
      go_wp2
      go_ret
      exact ⟨rfl, Grown.refl _⟩
    · have hd' : a0 < 0 := by omega
      clear hd
      have k := abs_neg_case (m := a1) hd' hl'
      have HA := Lib.hid (absd_neg hd' hl')
      obtain ⟨t, ht⟩ : ∃ t, trunc a0 a1 = t := ⟨_, rfl⟩
      obtain ⟨r, hr⟩ : ∃ r, roundd a0 a1 = r := ⟨_, rfl⟩
      rw [ht] at t1 t2 k
      rw [hr] at r1 r2 k
      have HT := Lib.hid ht
      have HR := Lib.hid hr
      obtain ⟨x, hx⟩ : ∃ x, trunc (-a0) a1 = x := ⟨_, rfl⟩
      obtain ⟨y, hy⟩ : ∃ y, roundd (-a0) a1 = y := ⟨_, rfl⟩
      rw [hx, hy] at k
      have HTA := Lib.hid hx
      have HRA := Lib.hid hy
      have HAT := Lib.hid k.1
      have HAR := Lib.hid k.2
      clear ht hr k hx hy
      go_enter Try.func9, Try.ntmps9
      go_wp2_with fail
      refine (trunc_is _ b01 b02 b11 b12 HT.out).mono ?_
      rintro e w' ⟨rfl, rfl⟩
      go_wp2_with fail
      refine (round_is _ b01 b02 b11 b12 HR.out).mono ?_
      rintro e w' ⟨rfl, rfl⟩
      go_wp2_with fail
      refine (abs_is _ t1 t2 HAT.out).mono ?_
      rintro e w' ⟨rfl, rfl⟩
      go_wp2_with fail
      refine (abs_is _ b01 b02 HA.out).mono ?_
      rintro e w' ⟨rfl, rfl⟩
      go_wp2_with fail
      refine (trunc_is _ (by omega) (by omega) b11 b12 HTA.out).mono ?_
      rintro e w' ⟨rfl, rfl⟩
      go_wp2_with fail
      refine (abs_is _ r1 r2 HAR.out).mono ?_
      rintro e w' ⟨rfl, rfl⟩
      go_wp2_with fail
      refine (abs_is _ b01 b02 HA.out).mono ?_
      rintro e w' ⟨rfl, rfl⟩
      go_wp2_with fail
      refine (round_is _ (by omega) (by omega) b11 b12 HRA.out).mono ?_
      rintro e w' ⟨rfl, rfl⟩
      go_wp2_with fail
      refine (abs_is _ (by omega) (by omega) H5.out).mono ?_
      rintro e w' ⟨rfl, rfl⟩
      go_wp2
      go_ret
      exact ⟨rfl, Grown.refl _⟩

end Go.Proofs.Ytapbcdchalgafaa.fnAbsOfRounded
