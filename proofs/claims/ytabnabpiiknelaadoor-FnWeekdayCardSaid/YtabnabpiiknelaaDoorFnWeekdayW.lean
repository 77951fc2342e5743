/- The law FnWeekday returns true for every input, where the listed package variables hold what the program lays into them. The names are read off the variable. -/
import Derived.Test.YtabnabpiiknelaaDoorRows
import Derived.WalkKit
import Derived.ProofKit
import Derived.OpenShut
import Derived.Test.YtabnabpiiknelaaDoorNamesW
import Derived.Lib.Hide
namespace Go.Proofs.YtabnabpiiknelaaDoor.fnWeekday
open Go.ChangeShapes Go.WideShapes Go.ChangeAt Go.RowKit
set_option linter.unusedVariables false

theorem tMon : (Tryd.prog.globals[0]?).map (·.type) = some 27 := by kernel_rfl
theorem tDay : (Tryd.prog.globals[1]?).map (·.type) = some 27 := by kernel_rfl
theorem gMon : Tryd.prog.globalNamed "time.longMonthNames" = some 0 := by kernel_rfl
theorem gDay : Tryd.prog.globalNamed "time.longDayNames" = some 1 := by kernel_rfl

theorem of_laid {W : World} (h : laidMetH Tryd.prog Rows.fnWeekdayRow.laid W) : Tab W 1 days := by
  rw [MakeChecks.laidMetH_plain _ _ _ (by kernel_rfl)] at h
  obtain ⟨ps, ⟨g0, t0, cs0, f0, p0, q0, hg0, ht0, hv0, hd0, _, _⟩, _, _⟩ := h
  obtain rfl := Option.some.inj (gDay.symm.trans hg0)
  obtain rfl := Option.some.inj (tDay.symm.trans ht0)
  exact tab_of_trod (names := days) hg0 hv0 hd0 (by decide)

set_option maxHeartbeats 4000000 in
theorem spec_walk (m : Int) (s : List UInt8) (w : World) (h1 : 0 ≤ m) (h2 : m ≤ 6) (hs : days[m.toNat]? = some s) :
    Calls Tryd.prog 9 #[.int .i64 m] w fun e w' => e = .returned (.string ⟨s.toArray⟩) ∧ Grown w w' := by
  rcases (show m = 0 ∨ m = 1 ∨ m = 2 ∨ m = 3 ∨ m = 4 ∨ m = 5 ∨ m = 6 by omega) with rfl | rfl | rfl | rfl | rfl | rfl | rfl
  all_goals
    obtain rfl := Option.some.inj hs
    clear hs h1 h2
    go_enter Tryd.func9, Tryd.ntmps9
    go_wp2
    go_ret
    exact ⟨rfl, (Grown.refl _).alloc _ _⟩

set_option maxHeartbeats 4000000 in
theorem walk (a0 : Int) (w0 : (Lit.int .i64 a0).wf = true) (w : World) (hL : laidMetH Tryd.prog Rows.fnWeekdayRow.laid w) :
    Calls Tryd.prog 4 #[.int .i64 a0] w fun e w' => e = .returned (.bool true) ∧ Grown w w' := by
  obtain ⟨b01, b02⟩ := bounds_of w0
  have HT := Lib.hid (of_laid hL)
  clear w0 hL
  by_cases h : 0 ≤ a0 ∧ a0 ≤ 6
  · obtain ⟨h1, h2⟩ := h
    obtain ⟨s, hs⟩ : ∃ s, days[a0.toNat]? = some s := ⟨_, List.getElem?_eq_getElem (show _ < days.length by show _ < 7; omega)⟩
    have HS := Lib.hid hs
    clear hs
    go_enter Tryd.func4, Tryd.ntmps4
    go_wp2_with fail
    refine (day_good _ h1 h2 HT.out HS.out).mono ?_
    rintro e w' ⟨rfl, rfl⟩
    go_wp2_with fail
    refine (spec_walk _ _ _ h1 h2 HS.out).mono ?_
    rintro e v1 ⟨rfl, g1⟩
    have G1 := Lib.hid g1
    clear g1
    go_wp2
    go_ret
    exact ⟨ret_bool (by first | rfl | (simp; done)), G1.out⟩
  · have hs : days[1]? = some [77, 111, 110, 100, 97, 121] := rfl
    have HS := Lib.hid hs
    clear hs
    rcases (show a0 < 0 ∨ 6 < a0 by omega) with h1 | h1
    all_goals
      clear h
      go_enter Tryd.func4, Tryd.ntmps4
      go_wp2_with fail
      refine (day_good (m := 1) _ (by omega) (by omega) HT.out HS.out).mono ?_
      rintro e w' ⟨rfl, rfl⟩
      go_wp2
      go_ret
      exact ⟨ret_bool (by first | rfl | (simp; done)), Grown.refl _⟩

end Go.Proofs.YtabnabpiiknelaaDoor.fnWeekday
