/- The law FnHoursMirrored returns true for every input. The other duration has the other number. No condition beyond the kinds of the arguments. -/
import Derived.Test.YtiabehlidnhgiaaRows
import Derived.WalkKit
import Derived.ProofKit
import Derived.OpenShut
import Derived.Test.YtiabehlidnhgiaaHoursW
import Derived.WalkLawsBesides
import Derived.Lib.Hide
namespace Go.Proofs.Ytiabehlidnhgiaa.fnHoursMirrored
open Go.ChangeShapes Go.WideShapes Go.ChangeAt Go.RowKit
set_option linter.unusedVariables false

theorem neg_run {z : Nat} {v : Int} (h : Fl.Is z v) : ∃ y, Fl.Is y (-v) ∧ ∀ w : World, (Op.unary .neg (.float .f64 z)).run Try.prog w = .ok (.float .f64 y) w :=
  ⟨_, Fl.neg_is h, fun w => rfl⟩

set_option maxHeartbeats 2000000 in
theorem walk (a0 : Int) (w0 : (Lit.int .i64 a0).wf = true) (w : World) :
    Calls Try.prog 6 #[.int .i64 a0] w fun e w' => e = .returned (.bool true) ∧ Grown w w' := by
  obtain ⟨b01, b02⟩ := bounds_of w0
  clear w0
  by_cases hl : a0 = -9223372036854775808
  · subst hl
    obtain ⟨z, i, c⟩ := hours_any b01 b02
    have hv : Fl.hv 3600000000000 (-9223372036854775808) < 0 := by
      have h1 := Fl.hv_neg 3600000000000 9223372036854775808
      have h2 := Fl.hv_pos 3600000000000 (by decide) (by decide) 9223372036854775808 (by decide)
      have h3 : -(9223372036854775808 : Int) = -9223372036854775808 := rfl
      rw [h3] at h1
      omega
    have o := ord_lt i Fl.zero0_is hv
    have C := Lib.hid c
    clear i hv c
    go_enter Try.func6, Try.ntmps6
    go_wp2_with fail
    refine (C.out _).mono ?_
    rintro e w' ⟨rfl, rfl⟩
    go_wp2
    go_ret
    exact ⟨ret_bool (by first | rfl | (simp; done)), Grown.refl _⟩
  · have hl' : -9223372036854775808 < a0 := by omega
    clear hl
    obtain ⟨h1, i1, hc1⟩ := hours_any (d := -a0) (by omega) (by omega)
    obtain ⟨h2, i2, hc2⟩ := hours_any b01 b02
    obtain ⟨h3, i3, hn⟩ := neg_run i2
    have ho := ord_eq i1 i3 (Fl.hv_neg _ _)
    have H1 := Lib.hid hc1
    have H2 := Lib.hid hc2
    clear i1 i2 i3 hc1 hc2
    obtain ⟨m1, i1, mc1⟩ := minutes_any (d := -a0) (by omega) (by omega)
    obtain ⟨m2, i2, mc2⟩ := minutes_any b01 b02
    obtain ⟨m3, i3, mn⟩ := neg_run i2
    have mo := ord_eq i1 i3 (Fl.hv_neg _ _)
    have M1 := Lib.hid mc1
    have M2 := Lib.hid mc2
    clear i1 i2 i3 mc1 mc2
    obtain ⟨s1, i1, sc1⟩ := seconds_any (d := -a0) (by omega) (by omega)
    obtain ⟨s2, i2, sc2⟩ := seconds_any b01 b02
    obtain ⟨s3, i3, sn⟩ := neg_run i2
    have so := ord_eq i1 i3 (Fl.hv_neg _ _)
    have S1 := Lib.hid sc1
    have S2 := Lib.hid sc2
    clear i1 i2 i3 sc1 sc2
    obtain ⟨q, iq, cq⟩ := minutes_any (d := 60000000000) (by omega) (by omega)
    have oq := ord_eq iq Fl.one_is (Fl.hv_one 60000000000 (by decide))
    have CQ := Lib.hid cq
    clear iq cq
    go_enter Try.func6, Try.ntmps6
    go_wp2_with fail
    refine (H1.out _).mono ?_
    rintro e w' ⟨rfl, rfl⟩
    go_wp2_with fail
    refine (H2.out _).mono ?_
    rintro e w' ⟨rfl, rfl⟩
    go_wp2_with fail
    refine (M1.out _).mono ?_
    rintro e w' ⟨rfl, rfl⟩
    go_wp2_with fail
    refine (M2.out _).mono ?_
    rintro e w' ⟨rfl, rfl⟩
    go_wp2_with fail
    refine (S1.out _).mono ?_
    rintro e w' ⟨rfl, rfl⟩
    go_wp2_with fail
    refine (S2.out _).mono ?_
    rintro e w' ⟨rfl, rfl⟩
    go_wp2_with fail
    refine (CQ.out _).mono ?_
    rintro e w' ⟨rfl, rfl⟩
    go_wp2
    go_ret
    exact ⟨ret_bool (by first | rfl | (simp; done)), Grown.refl _⟩

end Go.Proofs.Ytiabehlidnhgiaa.fnHoursMirrored
