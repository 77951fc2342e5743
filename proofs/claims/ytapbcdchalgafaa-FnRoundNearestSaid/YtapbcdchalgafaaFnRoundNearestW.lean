/- The law FnRoundNearest returns true for every input. Near multiples and the last durations, case by case. No condition beyond the kinds of the arguments. -/
import Derived.Test.YtapbcdchalgafaaRows
import Derived.WalkKit
import Derived.ProofKit
import Derived.OpenShut
import Derived.Test.YtapbcdchalgafaaRoundIs
import Derived.Test.YtapbcdchalgafaaSizeIs
import Derived.Test.YtapbcdchalgafaaMultIs
namespace Go.Proofs.Ytapbcdchalgafaa.fnRoundNearest
open Go.ChangeShapes Go.WideShapes Go.ChangeAt Go.RowKit
set_option linter.unusedVariables false

set_option maxHeartbeats 2000000 in
theorem n1 (a0 a1 R D : Int) (w : World) (b01 : -9223372036854775808 ≤ a0) (b02 : a0 ≤ 9223372036854775807) (b11 : -9223372036854775808 ≤ a1) (b12 : a1 ≤ 9223372036854775807) (hm' : 0 < a1) (r1 : (-9223372036854775808 : Int) ≤ 0) (r2 : (0 : Int) ≤ 9223372036854775807) (H : Hid (roundd a0 a1 = 0)) (HM : Hid ((0 : Int).tmod a1 = 0)) (ZR : Hid (sized 0 = R)) (ZD : Hid (sized a0 = D)) (q1 : 0 ≤ R) (q2 : R ≤ 9223372036854775808) (q3 : 0 ≤ D) (q4 : D ≤ 9223372036854775808) (hs : 0 ≤ a0) (hr : R = D) (hz : D ≤ 0) :
    Calls Try.prog 5 #[.int .i64 a0, .int .i64 a1] w fun e w' => e = .returned (.bool true) ∧ Grown w w' := by
  go_enter Try.func5, Try.ntmps5
  go_wp2_with fail
  refine (round_is _ b01 b02 b11 b12 H.out).mono ?_
  rintro e w' ⟨rfl, rfl⟩
  go_wp2_with fail
  refine (size_is _ r1 r2 ZR.out).mono ?_
  rintro e w' ⟨rfl, rfl⟩
  go_wp2_with fail
  refine (size_is _ b01 b02 ZD.out).mono ?_
  rintro e w' ⟨rfl, rfl⟩
  go_wp2_with fail
  refine (size_is _ r1 r2 ZR.out).mono ?_
  rintro e w' ⟨rfl, rfl⟩
  go_wp2_with fail
  refine (size_is _ b01 b02 ZD.out).mono ?_
  rintro e w' ⟨rfl, rfl⟩
  go_wp2_with fail
  refine (mult_yes _ r1 r2 b11 b12 hm' HM.out).mono ?_
  rintro e w' ⟨rfl, rfl⟩
  go_wp2
  go_ret
  exact ⟨ret_bool (by first | rfl | (simp; omega)), Grown.refl _⟩

set_option maxHeartbeats 2000000 in
theorem n2 (a0 a1 R D : Int) (w : World) (b01 : -9223372036854775808 ≤ a0) (b02 : a0 ≤ 9223372036854775807) (b11 : -9223372036854775808 ≤ a1) (b12 : a1 ≤ 9223372036854775807) (hm' : 0 < a1) (r1 : (-9223372036854775808 : Int) ≤ 0) (r2 : (0 : Int) ≤ 9223372036854775807) (H : Hid (roundd a0 a1 = 0)) (HM : Hid ((0 : Int).tmod a1 = 0)) (ZR : Hid (sized 0 = R)) (ZD : Hid (sized a0 = D)) (q1 : 0 ≤ R) (q2 : R ≤ 9223372036854775808) (q3 : 0 ≤ D) (q4 : D ≤ 9223372036854775808) (hs : 0 ≤ a0) (hr : R < D) (hf : D - R < a1 - (D - R)) :
    Calls Try.prog 5 #[.int .i64 a0, .int .i64 a1] w fun e w' => e = .returned (.bool true) ∧ Grown w w' := by
  go_enter Try.func5, Try.ntmps5
  go_wp2_with fail
  refine (round_is _ b01 b02 b11 b12 H.out).mono ?_
  rintro e w' ⟨rfl, rfl⟩
  go_wp2_with fail
  refine (size_is _ r1 r2 ZR.out).mono ?_
  rintro e w' ⟨rfl, rfl⟩
  go_wp2_with fail
  refine (size_is _ b01 b02 ZD.out).mono ?_
  rintro e w' ⟨rfl, rfl⟩
  go_wp2_with fail
  refine (size_is _ r1 r2 ZR.out).mono ?_
  rintro e w' ⟨rfl, rfl⟩
  go_wp2_with fail
  refine (size_is _ b01 b02 ZD.out).mono ?_
  rintro e w' ⟨rfl, rfl⟩
  go_wp2_with fail
  refine (size_is _ b01 b02 ZD.out).mono ?_
  rintro e w' ⟨rfl, rfl⟩
  go_wp2_with fail
  refine (size_is _ r1 r2 ZR.out).mono ?_
  rintro e w' ⟨rfl, rfl⟩
  go_wp2_with fail
  refine (mult_yes _ r1 r2 b11 b12 hm' HM.out).mono ?_
  rintro e w' ⟨rfl, rfl⟩
  go_wp2
  go_ret
  exact ⟨ret_bool (by first | rfl | (simp; omega)), Grown.refl _⟩

set_option maxHeartbeats 2000000 in
theorem n3 (a0 a1 r R D : Int) (w : World) (b01 : -9223372036854775808 ≤ a0) (b02 : a0 ≤ 9223372036854775807) (b11 : -9223372036854775808 ≤ a1) (b12 : a1 ≤ 9223372036854775807) (hm' : 0 < a1) (r1 : (-9223372036854775808 : Int) ≤ r) (r2 : (r : Int) ≤ 9223372036854775807) (H : Hid (roundd a0 a1 = r)) (HM : Hid ((r : Int).tmod a1 = 0)) (ZR : Hid (sized r = R)) (ZD : Hid (sized a0 = D)) (q1 : 0 ≤ R) (q2 : R ≤ 9223372036854775808) (q3 : 0 ≤ D) (q4 : D ≤ 9223372036854775808) (hs : 0 ≤ a0) (hp : 0 < r) (hr : R < D) (hf : D - R < a1 - (D - R)) :
    Calls Try.prog 5 #[.int .i64 a0, .int .i64 a1] w fun e w' => e = .returned (.bool true) ∧ Grown w w' := by
  have f2 : decide (a0 < 0) = false := decide_eq_false (by omega)
  have f1 : decide (r < 0) = false := decide_eq_false (by omega)
  go_enter Try.func5, Try.ntmps5
  go_wp2_with fail
  refine (round_is _ b01 b02 b11 b12 H.out).mono ?_
  rintro e w' ⟨rfl, rfl⟩
  go_wp2_with fail
  refine (size_is _ r1 r2 ZR.out).mono ?_
  rintro e w' ⟨rfl, rfl⟩
  go_wp2_with fail
  refine (size_is _ b01 b02 ZD.out).mono ?_
  rintro e w' ⟨rfl, rfl⟩
  go_wp2_with fail
  refine (size_is _ r1 r2 ZR.out).mono ?_
  rintro e w' ⟨rfl, rfl⟩
  go_wp2_with fail
  refine (size_is _ b01 b02 ZD.out).mono ?_
  rintro e w' ⟨rfl, rfl⟩
  go_wp2_with fail
  refine (size_is _ b01 b02 ZD.out).mono ?_
  rintro e w' ⟨rfl, rfl⟩
  go_wp2_with fail
  refine (size_is _ r1 r2 ZR.out).mono ?_
  rintro e w' ⟨rfl, rfl⟩
  go_wp2_with fail
  refine (mult_yes _ r1 r2 b11 b12 hm' HM.out).mono ?_
  rintro e w' ⟨rfl, rfl⟩
  go_wp2
  go_ret
  exact ⟨ret_bool (by first | rfl | (simp; omega)), Grown.refl _⟩

set_option maxHeartbeats 2000000 in
theorem n4 (a0 a1 r R D : Int) (w : World) (b01 : -9223372036854775808 ≤ a0) (b02 : a0 ≤ 9223372036854775807) (b11 : -9223372036854775808 ≤ a1) (b12 : a1 ≤ 9223372036854775807) (hm' : 0 < a1) (r1 : (-9223372036854775808 : Int) ≤ r) (r2 : (r : Int) ≤ 9223372036854775807) (H : Hid (roundd a0 a1 = r)) (HM : Hid ((r : Int).tmod a1 = 0)) (ZR : Hid (sized r = R)) (ZD : Hid (sized a0 = D)) (q1 : 0 ≤ R) (q2 : R ≤ 9223372036854775808) (q3 : 0 ≤ D) (q4 : D ≤ 9223372036854775808) (hs : 0 ≤ a0) (hp : 0 < r) (hr : R ≤ D) (hr2 : D ≤ R) :
    Calls Try.prog 5 #[.int .i64 a0, .int .i64 a1] w fun e w' => e = .returned (.bool true) ∧ Grown w w' := by
  have f2 : decide (a0 < 0) = false := decide_eq_false (by omega)
  have f1 : decide (r < 0) = false := decide_eq_false (by omega)
  go_enter Try.func5, Try.ntmps5
  go_wp2_with fail
  refine (round_is _ b01 b02 b11 b12 H.out).mono ?_
  rintro e w' ⟨rfl, rfl⟩
  go_wp2_with fail
  refine (size_is _ r1 r2 ZR.out).mono ?_
  rintro e w' ⟨rfl, rfl⟩
  go_wp2_with fail
  refine (size_is _ b01 b02 ZD.out).mono ?_
  rintro e w' ⟨rfl, rfl⟩
  go_wp2_with fail
  refine (size_is _ r1 r2 ZR.out).mono ?_
  rintro e w' ⟨rfl, rfl⟩
  go_wp2_with fail
  refine (size_is _ b01 b02 ZD.out).mono ?_
  rintro e w' ⟨rfl, rfl⟩
  go_wp2_with fail
  refine (mult_yes _ r1 r2 b11 b12 hm' HM.out).mono ?_
  rintro e w' ⟨rfl, rfl⟩
  go_wp2
  go_ret
  exact ⟨ret_bool (by first | rfl | (simp; omega)), Grown.refl _⟩

set_option maxHeartbeats 2000000 in
theorem n5 (a0 a1 r R D : Int) (w : World) (b01 : -9223372036854775808 ≤ a0) (b02 : a0 ≤ 9223372036854775807) (b11 : -9223372036854775808 ≤ a1) (b12 : a1 ≤ 9223372036854775807) (hm' : 0 < a1) (r1 : (-9223372036854775808 : Int) ≤ r) (r2 : (r : Int) ≤ 9223372036854775807) (H : Hid (roundd a0 a1 = r)) (HM : Hid ((r : Int).tmod a1 = 0)) (ZR : Hid (sized r = R)) (ZD : Hid (sized a0 = D)) (q1 : 0 ≤ R) (q2 : R ≤ 9223372036854775808) (q3 : 0 ≤ D) (q4 : D ≤ 9223372036854775808) (hs : 0 ≤ a0) (hp : 0 < r) (hr : D < R) (hf : R - D < a1 - (R - D)) :
    Calls Try.prog 5 #[.int .i64 a0, .int .i64 a1] w fun e w' => e = .returned (.bool true) ∧ Grown w w' := by
  have f2 : decide (a0 < 0) = false := decide_eq_false (by omega)
  have f1 : decide (r < 0) = false := decide_eq_false (by omega)
  go_enter Try.func5, Try.ntmps5
  go_wp2_with fail
  refine (round_is _ b01 b02 b11 b12 H.out).mono ?_
  rintro e w' ⟨rfl, rfl⟩
  go_wp2_with fail
  refine (size_is _ r1 r2 ZR.out).mono ?_
  rintro e w' ⟨rfl, rfl⟩
  go_wp2_with fail
  refine (size_is _ b01 b02 ZD.out).mono ?_
  rintro e w' ⟨rfl, rfl⟩
  go_wp2_with fail
  refine (size_is _ r1 r2 ZR.out).mono ?_
  rintro e w' ⟨rfl, rfl⟩
  go_wp2_with fail
  refine (size_is _ b01 b02 ZD.out).mono ?_
  rintro e w' ⟨rfl, rfl⟩
  go_wp2_with fail
  refine (mult_yes _ r1 r2 b11 b12 hm' HM.out).mono ?_
  rintro e w' ⟨rfl, rfl⟩
  go_wp2
  go_ret
  exact ⟨ret_bool (by first | rfl | (simp; omega)), Grown.refl _⟩

set_option maxHeartbeats 2000000 in
theorem n6 (a0 a1 r R D : Int) (w : World) (b01 : -9223372036854775808 ≤ a0) (b02 : a0 ≤ 9223372036854775807) (b11 : -9223372036854775808 ≤ a1) (b12 : a1 ≤ 9223372036854775807) (hm' : 0 < a1) (r1 : (-9223372036854775808 : Int) ≤ r) (r2 : (r : Int) ≤ 9223372036854775807) (H : Hid (roundd a0 a1 = r)) (HM : Hid ((r : Int).tmod a1 = 0)) (ZR : Hid (sized r = R)) (ZD : Hid (sized a0 = D)) (q1 : 0 ≤ R) (q2 : R ≤ 9223372036854775808) (q3 : 0 ≤ D) (q4 : D ≤ 9223372036854775808) (hs : 0 ≤ a0) (hp : 0 < r) (hr : D < R) (hf : R - D ≤ a1 - (R - D)) (hf2 : a1 - (R - D) ≤ R - D) :
    Calls Try.prog 5 #[.int .i64 a0, .int .i64 a1] w fun e w' => e = .returned (.bool true) ∧ Grown w w' := by
  have f2 : decide (a0 < 0) = false := decide_eq_false (by omega)
  have f1 : decide (r < 0) = false := decide_eq_false (by omega)
  go_enter Try.func5, Try.ntmps5
  go_wp2_with fail
  refine (round_is _ b01 b02 b11 b12 H.out).mono ?_
  rintro e w' ⟨rfl, rfl⟩
  go_wp2_with fail
  refine (size_is _ r1 r2 ZR.out).mono ?_
  rintro e w' ⟨rfl, rfl⟩
  go_wp2_with fail
  refine (size_is _ b01 b02 ZD.out).mono ?_
  rintro e w' ⟨rfl, rfl⟩
  go_wp2_with fail
  refine (size_is _ r1 r2 ZR.out).mono ?_
  rintro e w' ⟨rfl, rfl⟩
  go_wp2_with fail
  refine (size_is _ b01 b02 ZD.out).mono ?_
  rintro e w' ⟨rfl, rfl⟩
  go_wp2_with fail
  refine (mult_yes _ r1 r2 b11 b12 hm' HM.out).mono ?_
  rintro e w' ⟨rfl, rfl⟩
  go_wp2_with fail
  refine (size_is _ r1 r2 ZR.out).mono ?_
  rintro e w' ⟨rfl, rfl⟩
  go_wp2_with fail
  refine (size_is _ b01 b02 ZD.out).mono ?_
  rintro e w' ⟨rfl, rfl⟩
  go_wp2
  go_ret
  exact ⟨ret_bool (by first | rfl | (simp; omega)), Grown.refl _⟩

set_option maxHeartbeats 2000000 in
theorem m2 (a0 a1 R D : Int) (w : World) (b01 : -9223372036854775808 ≤ a0) (b02 : a0 ≤ 9223372036854775807) (b11 : -9223372036854775808 ≤ a1) (b12 : a1 ≤ 9223372036854775807) (hm' : 0 < a1) (r1 : (-9223372036854775808 : Int) ≤ 0) (r2 : (0 : Int) ≤ 9223372036854775807) (H : Hid (roundd a0 a1 = 0)) (HM : Hid ((0 : Int).tmod a1 = 0)) (ZR : Hid (sized 0 = R)) (ZD : Hid (sized a0 = D)) (q1 : 0 ≤ R) (q2 : R ≤ 9223372036854775808) (q3 : 0 ≤ D) (q4 : D ≤ 9223372036854775808) (hs : a0 < 0) (hr : R < D) (hf : D - R < a1 - (D - R)) :
    Calls Try.prog 5 #[.int .i64 a0, .int .i64 a1] w fun e w' => e = .returned (.bool true) ∧ Grown w w' := by
  go_enter Try.func5, Try.ntmps5
  go_wp2_with fail
  refine (round_is _ b01 b02 b11 b12 H.out).mono ?_
  rintro e w' ⟨rfl, rfl⟩
  go_wp2_with fail
  refine (size_is _ r1 r2 ZR.out).mono ?_
  rintro e w' ⟨rfl, rfl⟩
  go_wp2_with fail
  refine (size_is _ b01 b02 ZD.out).mono ?_
  rintro e w' ⟨rfl, rfl⟩
  go_wp2_with fail
  refine (size_is _ r1 r2 ZR.out).mono ?_
  rintro e w' ⟨rfl, rfl⟩
  go_wp2_with fail
  refine (size_is _ b01 b02 ZD.out).mono ?_
  rintro e w' ⟨rfl, rfl⟩
  go_wp2_with fail
  refine (size_is _ b01 b02 ZD.out).mono ?_
  rintro e w' ⟨rfl, rfl⟩
  go_wp2_with fail
  refine (size_is _ r1 r2 ZR.out).mono ?_
  rintro e w' ⟨rfl, rfl⟩
  go_wp2_with fail
  refine (mult_yes _ r1 r2 b11 b12 hm' HM.out).mono ?_
  rintro e w' ⟨rfl, rfl⟩
  go_wp2
  go_ret
  exact ⟨ret_bool (by first | rfl | (simp; omega)), Grown.refl _⟩

set_option maxHeartbeats 2000000 in
theorem m3 (a0 a1 r R D : Int) (w : World) (b01 : -9223372036854775808 ≤ a0) (b02 : a0 ≤ 9223372036854775807) (b11 : -9223372036854775808 ≤ a1) (b12 : a1 ≤ 9223372036854775807) (hm' : 0 < a1) (r1 : (-9223372036854775808 : Int) ≤ r) (r2 : (r : Int) ≤ 9223372036854775807) (H : Hid (roundd a0 a1 = r)) (HM : Hid ((r : Int).tmod a1 = 0)) (ZR : Hid (sized r = R)) (ZD : Hid (sized a0 = D)) (q1 : 0 ≤ R) (q2 : R ≤ 9223372036854775808) (q3 : 0 ≤ D) (q4 : D ≤ 9223372036854775808) (hs : a0 < 0) (hp : r < 0) (hr : R < D) (hf : D - R < a1 - (D - R)) :
    Calls Try.prog 5 #[.int .i64 a0, .int .i64 a1] w fun e w' => e = .returned (.bool true) ∧ Grown w w' := by
  have f2 : decide (a0 < 0) = true := decide_eq_true (by omega)
  have f1 : decide (r < 0) = true := decide_eq_true (by omega)
  go_enter Try.func5, Try.ntmps5
  go_wp2_with fail
  refine (round_is _ b01 b02 b11 b12 H.out).mono ?_
  rintro e w' ⟨rfl, rfl⟩
  go_wp2_with fail
  refine (size_is _ r1 r2 ZR.out).mono ?_
  rintro e w' ⟨rfl, rfl⟩
  go_wp2_with fail
  refine (size_is _ b01 b02 ZD.out).mono ?_
  rintro e w' ⟨rfl, rfl⟩
  go_wp2_with fail
  refine (size_is _ r1 r2 ZR.out).mono ?_
  rintro e w' ⟨rfl, rfl⟩
  go_wp2_with fail
  refine (size_is _ b01 b02 ZD.out).mono ?_
  rintro e w' ⟨rfl, rfl⟩
  go_wp2_with fail
  refine (size_is _ b01 b02 ZD.out).mono ?_
  rintro e w' ⟨rfl, rfl⟩
  go_wp2_with fail
  refine (size_is _ r1 r2 ZR.out).mono ?_
  rintro e w' ⟨rfl, rfl⟩
  go_wp2_with fail
  refine (mult_yes _ r1 r2 b11 b12 hm' HM.out).mono ?_
  rintro e w' ⟨rfl, rfl⟩
  go_wp2
  go_ret
  exact ⟨ret_bool (by first | rfl | (simp; omega)), Grown.refl _⟩

set_option maxHeartbeats 2000000 in
theorem m4 (a0 a1 r R D : Int) (w : World) (b01 : -9223372036854775808 ≤ a0) (b02 : a0 ≤ 9223372036854775807) (b11 : -9223372036854775808 ≤ a1) (b12 : a1 ≤ 9223372036854775807) (hm' : 0 < a1) (r1 : (-9223372036854775808 : Int) ≤ r) (r2 : (r : Int) ≤ 9223372036854775807) (H : Hid (roundd a0 a1 = r)) (HM : Hid ((r : Int).tmod a1 = 0)) (ZR : Hid (sized r = R)) (ZD : Hid (sized a0 = D)) (q1 : 0 ≤ R) (q2 : R ≤ 9223372036854775808) (q3 : 0 ≤ D) (q4 : D ≤ 9223372036854775808) (hs : a0 < 0) (hp : r < 0) (hr : R ≤ D) (hr2 : D ≤ R) :
    Calls Try.prog 5 #[.int .i64 a0, .int .i64 a1] w fun e w' => e = .returned (.bool true) ∧ Grown w w' := by
  have f2 : decide (a0 < 0) = true := decide_eq_true (by omega)
  have f1 : decide (r < 0) = true := decide_eq_true (by omega)
  go_enter Try.func5, Try.ntmps5
  go_wp2_with fail
  refine (round_is _ b01 b02 b11 b12 H.out).mono ?_
  rintro e w' ⟨rfl, rfl⟩
  go_wp2_with fail
  refine (size_is _ r1 r2 ZR.out).mono ?_
  rintro e w' ⟨rfl, rfl⟩
  go_wp2_with fail
  refine (size_is _ b01 b02 ZD.out).mono ?_
  rintro e w' ⟨rfl, rfl⟩
  go_wp2_with fail
  refine (size_is _ r1 r2 ZR.out).mono ?_
  rintro e w' ⟨rfl, rfl⟩
  go_wp2_with fail
  refine (size_is _ b01 b02 ZD.out).mono ?_
  rintro e w' ⟨rfl, rfl⟩
  go_wp2_with fail
  refine (mult_yes _ r1 r2 b11 b12 hm' HM.out).mono ?_
  rintro e w' ⟨rfl, rfl⟩
  go_wp2
  go_ret
  exact ⟨ret_bool (by first | rfl | (simp; omega)), Grown.refl _⟩

set_option maxHeartbeats 2000000 in
theorem m5 (a0 a1 r R D : Int) (w : World) (b01 : -9223372036854775808 ≤ a0) (b02 : a0 ≤ 9223372036854775807) (b11 : -9223372036854775808 ≤ a1) (b12 : a1 ≤ 9223372036854775807) (hm' : 0 < a1) (r1 : (-9223372036854775808 : Int) ≤ r) (r2 : (r : Int) ≤ 9223372036854775807) (H : Hid (roundd a0 a1 = r)) (HM : Hid ((r : Int).tmod a1 = 0)) (ZR : Hid (sized r = R)) (ZD : Hid (sized a0 = D)) (q1 : 0 ≤ R) (q2 : R ≤ 9223372036854775808) (q3 : 0 ≤ D) (q4 : D ≤ 9223372036854775808) (hs : a0 < 0) (hp : r < 0) (hr : D < R) (hf : R - D < a1 - (R - D)) :
    Calls Try.prog 5 #[.int .i64 a0, .int .i64 a1] w fun e w' => e = .returned (.bool true) ∧ Grown w w' := by
  have f2 : decide (a0 < 0) = true := decide_eq_true (by omega)
  have f1 : decide (r < 0) = true := decide_eq_true (by omega)
  go_enter Try.func5, Try.ntmps5
  go_wp2_with fail
  refine (round_is _ b01 b02 b11 b12 H.out).mono ?_
  rintro e w' ⟨rfl, rfl⟩
  go_wp2_with fail
  refine (size_is _ r1 r2 ZR.out).mono ?_
  rintro e w' ⟨rfl, rfl⟩
  go_wp2_with fail
  refine (size_is _ b01 b02 ZD.out).mono ?_
  rintro e w' ⟨rfl, rfl⟩
  go_wp2_with fail
  refine (size_is _ r1 r2 ZR.out).mono ?_
  rintro e w' ⟨rfl, rfl⟩
  go_wp2_with fail
  refine (size_is _ b01 b02 ZD.out).mono ?_
  rintro e w' ⟨rfl, rfl⟩
  go_wp2_with fail
  refine (mult_yes _ r1 r2 b11 b12 hm' HM.out).mono ?_
  rintro e w' ⟨rfl, rfl⟩
  go_wp2
  go_ret
  exact ⟨ret_bool (by first | rfl | (simp; omega)), Grown.refl _⟩

set_option maxHeartbeats 2000000 in
theorem m6 (a0 a1 r R D : Int) (w : World) (b01 : -9223372036854775808 ≤ a0) (b02 : a0 ≤ 9223372036854775807) (b11 : -9223372036854775808 ≤ a1) (b12 : a1 ≤ 9223372036854775807) (hm' : 0 < a1) (r1 : (-9223372036854775808 : Int) ≤ r) (r2 : (r : Int) ≤ 9223372036854775807) (H : Hid (roundd a0 a1 = r)) (HM : Hid ((r : Int).tmod a1 = 0)) (ZR : Hid (sized r = R)) (ZD : Hid (sized a0 = D)) (q1 : 0 ≤ R) (q2 : R ≤ 9223372036854775808) (q3 : 0 ≤ D) (q4 : D ≤ 9223372036854775808) (hs : a0 < 0) (hp : r < 0) (hr : D < R) (hf : R - D ≤ a1 - (R - D)) (hf2 : a1 - (R - D) ≤ R - D) :
    Calls Try.prog 5 #[.int .i64 a0, .int .i64 a1] w fun e w' => e = .returned (.bool true) ∧ Grown w w' := by
  have f2 : decide (a0 < 0) = true := decide_eq_true (by omega)
  have f1 : decide (r < 0) = true := decide_eq_true (by omega)
  go_enter Try.func5, Try.ntmps5
  go_wp2_with fail
  refine (round_is _ b01 b02 b11 b12 H.out).mono ?_
  rintro e w' ⟨rfl, rfl⟩
  go_wp2_with fail
  refine (size_is _ r1 r2 ZR.out).mono ?_
  rintro e w' ⟨rfl, rfl⟩
  go_wp2_with fail
  refine (size_is _ b01 b02 ZD.out).mono ?_
  rintro e w' ⟨rfl, rfl⟩
  go_wp2_with fail
  refine (size_is _ r1 r2 ZR.out).mono ?_
  rintro e w' ⟨rfl, rfl⟩
  go_wp2_with fail
  refine (size_is _ b01 b02 ZD.out).mono ?_
  rintro e w' ⟨rfl, rfl⟩
  go_wp2_with fail
  refine (mult_yes _ r1 r2 b11 b12 hm' HM.out).mono ?_
  rintro e w' ⟨rfl, rfl⟩
  go_wp2_with fail
  refine (size_is _ r1 r2 ZR.out).mono ?_
  rintro e w' ⟨rfl, rfl⟩
  go_wp2_with fail
  refine (size_is _ b01 b02 ZD.out).mono ?_
  rintro e w' ⟨rfl, rfl⟩
  go_wp2
  go_ret
  exact ⟨ret_bool (by first | rfl | (simp; omega)), Grown.refl _⟩

set_option maxHeartbeats 2000000 in
theorem l1 (a0 a1 R D : Int) (w : World) (b01 : -9223372036854775808 ≤ a0) (b02 : a0 ≤ 9223372036854775807) (b11 : -9223372036854775808 ≤ a1) (b12 : a1 ≤ 9223372036854775807) (hm' : 0 < a1) (r1 : (-9223372036854775808 : Int) ≤ 9223372036854775807) (r2 : (9223372036854775807 : Int) ≤ 9223372036854775807) (H : Hid (roundd a0 a1 = 9223372036854775807)) (HM : Hid ((9223372036854775807 : Int).tmod a1 ≠ 0)) (ZR : Hid (sized 9223372036854775807 = R)) (ZD : Hid (sized a0 = D)) (q1 : 0 ≤ R) (q2 : R ≤ 9223372036854775808) (q3 : 0 ≤ D) (q4 : D ≤ 9223372036854775808) (hs : 0 ≤ a0) (hr : D ≤ R) (g1 : 0 ≤ D % a1) (g2 : D % a1 < a1) (g3 : D % a1 ≤ D) (g4 : 9223372036854775807 < D - D % a1 + a1) (g5 : a1 - D % a1 ≤ D % a1) :
    Calls Try.prog 5 #[.int .i64 a0, .int .i64 a1] w fun e w' => e = .returned (.bool true) ∧ Grown w w' := by
  have f2 : decide (a0 < 0) = false := decide_eq_false (by omega)
  go_enter Try.func5, Try.ntmps5
  go_wp2_with fail
  refine (round_is _ b01 b02 b11 b12 H.out).mono ?_
  rintro e w' ⟨rfl, rfl⟩
  go_wp2_with fail
  refine (size_is _ r1 r2 ZR.out).mono ?_
  rintro e w' ⟨rfl, rfl⟩
  go_wp2_with fail
  refine (size_is _ b01 b02 ZD.out).mono ?_
  rintro e w' ⟨rfl, rfl⟩
  go_wp2_with fail
  refine (size_is _ r1 r2 ZR.out).mono ?_
  rintro e w' ⟨rfl, rfl⟩
  go_wp2_with fail
  refine (size_is _ b01 b02 ZD.out).mono ?_
  rintro e w' ⟨rfl, rfl⟩
  go_wp2_with fail
  refine (mult_no _ r1 r2 b11 b12 hm' HM.out).mono ?_
  rintro e w' ⟨rfl, rfl⟩
  go_wp2_with fail
  refine (size_is _ b01 b02 ZD.out).mono ?_
  rintro e w' ⟨rfl, rfl⟩
  go_wp2_with fail
  refine (size_is _ b01 b02 ZD.out).mono ?_
  rintro e w' ⟨rfl, rfl⟩
  go_wp2
  go_ret
  exact ⟨ret_bool (by first | rfl | (simp; omega)), Grown.refl _⟩

set_option maxHeartbeats 2000000 in
theorem l2 (a0 a1 R D : Int) (w : World) (b01 : -9223372036854775808 ≤ a0) (b02 : a0 ≤ 9223372036854775807) (b11 : -9223372036854775808 ≤ a1) (b12 : a1 ≤ 9223372036854775807) (hm' : 0 < a1) (r1 : (-9223372036854775808 : Int) ≤ (-9223372036854775808)) (r2 : ((-9223372036854775808) : Int) ≤ 9223372036854775807) (H : Hid (roundd a0 a1 = (-9223372036854775808))) (HM : Hid (((-9223372036854775808) : Int).tmod a1 ≠ 0)) (ZR : Hid (sized (-9223372036854775808) = R)) (ZD : Hid (sized a0 = D)) (q1 : 0 ≤ R) (q2 : R ≤ 9223372036854775808) (q3 : 0 ≤ D) (q4 : D ≤ 9223372036854775808) (hs : a0 < 0) (hr : D ≤ R) (g1 : 0 ≤ D % a1) (g2 : D % a1 < a1) (g3 : D % a1 ≤ D) (g4 : 9223372036854775808 < D - D % a1 + a1) (g5 : a1 - D % a1 ≤ D % a1) :
    Calls Try.prog 5 #[.int .i64 a0, .int .i64 a1] w fun e w' => e = .returned (.bool true) ∧ Grown w w' := by
  have f2 : decide (a0 < 0) = true := decide_eq_true (by omega)
  go_enter Try.func5, Try.ntmps5
  go_wp2_with fail
  refine (round_is _ b01 b02 b11 b12 H.out).mono ?_
  rintro e w' ⟨rfl, rfl⟩
  go_wp2_with fail
  refine (size_is _ r1 r2 ZR.out).mono ?_
  rintro e w' ⟨rfl, rfl⟩
  go_wp2_with fail
  refine (size_is _ b01 b02 ZD.out).mono ?_
  rintro e w' ⟨rfl, rfl⟩
  go_wp2_with fail
  refine (size_is _ r1 r2 ZR.out).mono ?_
  rintro e w' ⟨rfl, rfl⟩
  go_wp2_with fail
  refine (size_is _ b01 b02 ZD.out).mono ?_
  rintro e w' ⟨rfl, rfl⟩
  go_wp2_with fail
  refine (mult_no _ r1 r2 b11 b12 hm' HM.out).mono ?_
  rintro e w' ⟨rfl, rfl⟩
  go_wp2_with fail
  refine (size_is _ b01 b02 ZD.out).mono ?_
  rintro e w' ⟨rfl, rfl⟩
  go_wp2_with fail
  refine (size_is _ b01 b02 ZD.out).mono ?_
  rintro e w' ⟨rfl, rfl⟩
  go_wp2
  go_ret
  exact ⟨ret_bool (by first | rfl | (simp; omega)), Grown.refl _⟩

set_option maxHeartbeats 2000000 in
theorem walk (a0 : Int) (a1 : Int) (w0 : (Lit.int .i64 a0).wf = true) (w1 : (Lit.int .i64 a1).wf = true) (w : World) :
    Calls Try.prog 5 #[.int .i64 a0, .int .i64 a1] w fun e w' => e = .returned (.bool true) ∧ Grown w w' := by
  obtain ⟨b01, b02⟩ := bounds_of w0
  obtain ⟨b11, b12⟩ := bounds_of w1
  clear w0 w1
  by_cases hm : a1 ≤ 0
  · have H := Lib.hid (round_zero (d := a0) hm)
    go_enter Try.func5, Try.ntmps5
    go_wp2_with fail
    refine (round_is _ b01 b02 b11 b12 H.out).mono ?_
    rintro e w' ⟨rfl, rfl⟩
    go_wp2
    go_ret
    exact ⟨ret_bool (by first | rfl | (simp; omega)), Grown.refl _⟩
  · have hm' : 0 < a1 := by omega
    clear hm
    obtain ⟨r1, r2⟩ := round_bounds (m := a1) b01 b02
    by_cases hd : 0 ≤ a0
    · have rc := round_pos_cases hd hm'
      obtain ⟨g1, g2, g3⟩ := emod_rng hd hm'
      rcases rc with ⟨c1, c2⟩ | ⟨c1, c2, c3⟩ | ⟨c1, c2, c3⟩
      · have e := sub_emod_tmod (m := a1) hd
        by_cases hz : a0 - a0 % a1 = 0
        · rw [hz] at c2 e
          rw [c2] at r1 r2
          by_cases h0 : a0 = 0
          · exact n1 a0 a1 0 a0 w b01 b02 b11 b12 hm' r1 r2 c2 e (sized_pos (by omega)) (sized_pos hd) (by omega) (by omega) (by omega) (by omega) hd (by omega) (by omega)
          · exact n2 a0 a1 0 a0 w b01 b02 b11 b12 hm' r1 r2 c2 e (sized_pos (by omega)) (sized_pos hd) (by omega) (by omega) (by omega) (by omega) hd (by omega) (by omega)
        · rw [c2] at r1 r2
          by_cases h0 : a0 % a1 = 0
          · exact n4 a0 a1 _ (a0 - a0 % a1) a0 w b01 b02 b11 b12 hm' r1 r2 c2 e (sized_pos (by omega)) (sized_pos hd) (by omega) (by omega) (by omega) (by omega) hd (by omega) (by omega) (by omega)
          · exact n3 a0 a1 _ (a0 - a0 % a1) a0 w b01 b02 b11 b12 hm' r1 r2 c2 e (sized_pos (by omega)) (sized_pos hd) (by omega) (by omega) (by omega) (by omega) hd (by omega) (by omega) (by omega)
      · have e := add_sub_emod_tmod (d := a0) (m := a1)
        rw [c2] at r1 r2
        by_cases h0 : a1 < a0 % a1 + a0 % a1
        · exact n5 a0 a1 _ (a0 + a1 - a0 % a1) a0 w b01 b02 b11 b12 hm' r1 r2 c2 e (sized_pos (by omega)) (sized_pos hd) (by omega) (by omega) (by omega) (by omega) hd (by omega) (by omega) (by omega)
        · exact n6 a0 a1 _ (a0 + a1 - a0 % a1) a0 w b01 b02 b11 b12 hm' r1 r2 c2 e (sized_pos (by omega)) (sized_pos hd) (by omega) (by omega) (by omega) (by omega) hd (by omega) (by omega) (by omega) (by omega)
      · have e := top_no_mult hd hm' b02 c1 c2
        rw [c3] at r1 r2
        exact l1 a0 a1 9223372036854775807 a0 w b01 b02 b11 b12 hm' r1 r2 c3 e (sized_pos (by omega)) (sized_pos hd) (by omega) (by omega) (by omega) (by omega) hd (by omega) (by omega) (by omega) (by omega) (by omega) (by omega)
    · have hd' : a0 < 0 := by omega
      clear hd
      have rc := round_neg_cases hd' hm'
      obtain ⟨g1, g2, g3⟩ := emod_rng (d := -a0) (by omega) hm'
      rcases rc with ⟨c1, c2⟩ | ⟨c1, c2, c3⟩ | ⟨c1, c2, c3⟩
      · have e := neg_emod_tmod (d := a0) (m := a1)
        by_cases hz : a0 + (-a0) % a1 = 0
        · rw [hz] at c2 e
          rw [c2] at r1 r2
          exact m2 a0 a1 0 (-a0) w b01 b02 b11 b12 hm' r1 r2 c2 e (sized_pos (by omega)) (sized_neg hd') (by omega) (by omega) (by omega) (by omega) hd' (by omega) (by omega)
        · rw [c2] at r1 r2
          by_cases h0 : (-a0) % a1 = 0
          · exact m4 a0 a1 _ (-(a0 + (-a0) % a1)) (-a0) w b01 b02 b11 b12 hm' r1 r2 c2 e (sized_neg (by omega)) (sized_neg hd') (by omega) (by omega) (by omega) (by omega) hd' (by omega) (by omega) (by omega)
          · exact m3 a0 a1 _ (-(a0 + (-a0) % a1)) (-a0) w b01 b02 b11 b12 hm' r1 r2 c2 e (sized_neg (by omega)) (sized_neg hd') (by omega) (by omega) (by omega) (by omega) hd' (by omega) (by omega) (by omega)
      · have e := neg_sub_emod_tmod (d := a0) (m := a1)
        rw [c2] at r1 r2
        by_cases h0 : a1 < (-a0) % a1 + (-a0) % a1
        · exact m5 a0 a1 _ (-(a0 - a1 + (-a0) % a1)) (-a0) w b01 b02 b11 b12 hm' r1 r2 c2 e (sized_neg (by omega)) (sized_neg hd') (by omega) (by omega) (by omega) (by omega) hd' (by omega) (by omega) (by omega)
        · exact m6 a0 a1 _ (-(a0 - a1 + (-a0) % a1)) (-a0) w b01 b02 b11 b12 hm' r1 r2 c2 e (sized_neg (by omega)) (sized_neg hd') (by omega) (by omega) (by omega) (by omega) hd' (by omega) (by omega) (by omega) (by omega)
      · have e := low_no_mult hd' hm' b01 c1 c2
        rw [c3] at r1 r2
        exact l2 a0 a1 9223372036854775808 (-a0) w b01 b02 b11 b12 hm' r1 r2 c3 e (sized_neg (by omega)) (sized_neg hd') (by omega) (by omega) (by omega) (by omega) hd' (by omega) (by omega) (by omega) (by omega) (by omega) (by omega)

end Go.Proofs.Ytapbcdchalgafaa.fnRoundNearest
