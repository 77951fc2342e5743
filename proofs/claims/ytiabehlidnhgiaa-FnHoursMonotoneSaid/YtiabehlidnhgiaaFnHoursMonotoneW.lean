/- The law FnHoursMonotone returns true for every input. Greater durations have no lesser number. No condition beyond the kinds of the arguments. -/
import Derived.Test.YtiabehlidnhgiaaRows
import Derived.WalkKit
import Derived.ProofKit
import Derived.OpenShut
import Derived.Test.YtiabehlidnhgiaaHoursW
import Derived.WalkLawsBesides
import Derived.Lib.Hide
namespace Go.Proofs.Ytiabehlidnhgiaa.fnHoursMonotone
open Go.ChangeShapes Go.WideShapes Go.ChangeAt Go.RowKit
set_option linter.unusedVariables false

set_option maxHeartbeats 2000000 in
theorem walk (a0 : Int) (a1 : Int) (w0 : (Lit.int .i64 a0).wf = true) (w1 : (Lit.int .i64 a1).wf = true) (w : World) :
    Calls Try.prog 7 #[.int .i64 a0, .int .i64 a1] w fun e w' => e = .returned (.bool true) ∧ Grown w w' := by
  obtain ⟨b01, b02⟩ := bounds_of w0
  obtain ⟨b11, b12⟩ := bounds_of w1
  clear w0 w1
  by_cases h : a1 < a0
  · have h' : a1 ≤ a0 := by omega
    obtain ⟨h1, i1, hc1⟩ := hours_any (d := a1) b11 b12
    obtain ⟨h2, i2, hc2⟩ := hours_any (d := a0) b01 b02
    have hv := Fl.hv_mono 3600000000000 (by decide) (by decide) _ _ h'
    have ho : FloatKind.f64.format.order h1 h2 = some .lt ∨ FloatKind.f64.format.order h1 h2 = some .eq := by
      rcases Int.lt_or_eq_of_le hv with hh | hh
      · exact Or.inl (ord_lt i1 i2 hh)
      · exact Or.inr (ord_eq i1 i2 hh)
    have H1 := Lib.hid hc1
    have H2 := Lib.hid hc2
    clear i1 i2 hc1 hc2 hv
    obtain ⟨m1, i1, mc1⟩ := minutes_any (d := a1) b11 b12
    obtain ⟨m2, i2, mc2⟩ := minutes_any (d := a0) b01 b02
    have mv := Fl.hv_mono 60000000000 (by decide) (by decide) _ _ h'
    have mo : FloatKind.f64.format.order m1 m2 = some .lt ∨ FloatKind.f64.format.order m1 m2 = some .eq := by
      rcases Int.lt_or_eq_of_le mv with hh | hh
      · exact Or.inl (ord_lt i1 i2 hh)
      · exact Or.inr (ord_eq i1 i2 hh)
    have M1 := Lib.hid mc1
    have M2 := Lib.hid mc2
    clear i1 i2 mc1 mc2 mv
    obtain ⟨s1, i1, sc1⟩ := seconds_any (d := a1) b11 b12
    obtain ⟨s2, i2, sc2⟩ := seconds_any (d := a0) b01 b02
    have sv := Fl.hv_mono 1000000000 (by decide) (by decide) _ _ h'
    have so : FloatKind.f64.format.order s1 s2 = some .lt ∨ FloatKind.f64.format.order s1 s2 = some .eq := by
      rcases Int.lt_or_eq_of_le sv with hh | hh
      · exact Or.inl (ord_lt i1 i2 hh)
      · exact Or.inr (ord_eq i1 i2 hh)
    have S1 := Lib.hid sc1
    have S2 := Lib.hid sc2
    clear i1 i2 sc1 sc2 sv
    obtain ⟨q, iq, cq⟩ := seconds_any (d := 1000000000) (by omega) (by omega)
    have oq := ord_eq iq Fl.one_is (Fl.hv_one 1000000000 (by decide))
    have CQ := Lib.hid cq
    clear iq cq
    rcases ho with ho | ho <;> rcases mo with mo | mo <;> rcases so with so | so
    all_goals
      go_enter Try.func7, Try.ntmps7
      go_wp2_with fail
      refine (H1.out _).mono ?_
      rintro e w' ⟨rfl, rfl⟩
      go_wp2_with fail
      refine (H2.out _).mono ?_
      rintro e w' ⟨rfl, rfl⟩
      go_wp2_with fail
      refine (M1.out _).mono ?_
      rintro e w' ⟨rfl, rfl⟩
      go_wp2_with fail
      refine (M2.out _).mono ?_
      rintro e w' ⟨rfl, rfl⟩
      go_wp2_with fail
      refine (S1.out _).mono ?_
      rintro e w' ⟨rfl, rfl⟩
      go_wp2_with fail
      refine (S2.out _).mono ?_
      rintro e w' ⟨rfl, rfl⟩
      go_wp2_with fail
      refine (CQ.out _).mono ?_
      rintro e w' ⟨rfl, rfl⟩
      go_wp2
      go_ret
      exact ⟨ret_bool (by first | rfl | (simp; done)), Grown.refl _⟩
  · have h' : a0 ≤ a1 := by omega
    clear h
    obtain ⟨h1, i1, hc1⟩ := hours_any (d := a0) b01 b02
    obtain ⟨h2, i2, hc2⟩ := hours_any (d := a1) b11 b12
    have hv := Fl.hv_mono 3600000000000 (by decide) (by decide) _ _ h'
    have ho : FloatKind.f64.format.order h1 h2 = some .lt ∨ FloatKind.f64.format.order h1 h2 = some .eq := by
      rcases Int.lt_or_eq_of_le hv with hh | hh
      · exact Or.inl (ord_lt i1 i2 hh)
      · exact Or.inr (ord_eq i1 i2 hh)
    have H1 := Lib.hid hc1
    have H2 := Lib.hid hc2
    clear i1 i2 hc1 hc2 hv
    obtain ⟨m1, i1, mc1⟩ := minutes_any (d := a0) b01 b02
    obtain ⟨m2, i2, mc2⟩ := minutes_any (d := a1) b11 b12
    have mv := Fl.hv_mono 60000000000 (by decide) (by decide) _ _ h'
    have mo : FloatKind.f64.format.order m1 m2 = some .lt ∨ FloatKind.f64.format.order m1 m2 = some .eq := by
      rcases Int.lt_or_eq_of_le mv with hh | hh
      · exact Or.inl (ord_lt i1 i2 hh)
      · exact Or.inr (ord_eq i1 i2 hh)
    have M1 := Lib.hid mc1
    have M2 := Lib.hid mc2
    clear i1 i2 mc1 mc2 mv
    obtain ⟨s1, i1, sc1⟩ := seconds_any (d := a0) b01 b02
    obtain ⟨s2, i2, sc2⟩ := seconds_any (d := a1) b11 b12
    have sv := Fl.hv_mono 1000000000 (by decide) (by decide) _ _ h'
    have so : FloatKind.f64.format.order s1 s2 = some .lt ∨ FloatKind.f64.format.order s1 s2 = some .eq := by
      rcases Int.lt_or_eq_of_le sv with hh | hh
      · exact Or.inl (ord_lt i1 i2 hh)
      · exact Or.inr (ord_eq i1 i2 hh)
    have S1 := Lib.hid sc1
    have S2 := Lib.hid sc2
    clear i1 i2 sc1 sc2 sv
    obtain ⟨q, iq, cq⟩ := seconds_any (d := 1000000000) (by omega) (by omega)
    have oq := ord_eq iq Fl.one_is (Fl.hv_one 1000000000 (by decide))
    have CQ := Lib.hid cq
    clear iq cq
    rcases ho with ho | ho <;> rcases mo with mo | mo <;> rcases so with so | so
    all_goals
      go_enter Try.func7, Try.ntmps7
      go_wp2_with fail
      refine (H1.out _).mono ?_
      rintro e w' ⟨rfl, rfl⟩
      go_wp2_with fail
      refine (H2.out _).mono ?_
      rintro e w' ⟨rfl, rfl⟩
      go_wp2_with fail
      refine (M1.out _).mono ?_
      rintro e w' ⟨rfl, rfl⟩
      go_wp2_with fail
      refine (M2.out _).mono ?_
      rintro e w' ⟨rfl, rfl⟩
      go_wp2_with fail
      refine (S1.out _).mono ?_
      rintro e w' ⟨rfl, rfl⟩
      go_wp2_with fail
      refine (S2.out _).mono ?_
      rintro e w' ⟨rfl, rfl⟩
      go_wp2_with fail
      refine (CQ.out _).mono ?_
      rintro e w' ⟨rfl, rfl⟩
      go_wp2
      go_ret
      exact ⟨ret_bool (by first | rfl | (simp; done)), Grown.refl _⟩

end Go.Proofs.Ytiabehlidnhgiaa.fnHoursMonotone
