/- The law FnMonth returns true for every input, where the listed package variables hold what the program lays into them. The names are read off the variable. -/
import Derived.Test.YtabnabpiiknelaaDoorRows
import Derived.WalkKit
import Derived.ProofKit
import Derived.OpenShut
import Derived.Test.YtabnabpiiknelaaDoorNamesW
import Derived.Lib.Hide
namespace Go.Proofs.YtabnabpiiknelaaDoor.fnMonth
open Go.ChangeShapes Go.WideShapes Go.ChangeAt Go.RowKit
set_option linter.unusedVariables false

theorem tMon : (Tryd.prog.globals[0]?).map (·.type) = some 27 := by kernel_rfl
theorem tDay : (Tryd.prog.globals[1]?).map (·.type) = some 27 := by kernel_rfl
theorem gMon : Tryd.prog.globalNamed "time.longMonthNames" = some 0 := by kernel_rfl
theorem gDay : Tryd.prog.globalNamed "time.longDayNames" = some 1 := by kernel_rfl

theorem of_laid {W : World} (h : laidMetH Tryd.prog Rows.fnMonthRow.laid W) : Tab W 0 months := by
  rw [MakeChecks.laidMetH_plain _ _ _ (by kernel_rfl)] at h
  obtain ⟨ps, ⟨g0, t0, cs0, f0, p0, q0, hg0, ht0, hv0, hd0, _, _⟩, _, _⟩ := h
  obtain rfl := Option.some.inj (gMon.symm.trans hg0)
  obtain rfl := Option.some.inj (tMon.symm.trans ht0)
  exact tab_of_trod (names := months) hg0 hv0 hd0 (by decide)

set_option maxHeartbeats 4000000 in
theorem spec_walk (m : Int) (s : List UInt8) (w : World) (h1 : 1 ≤ m) (h2 : m ≤ 12) (hs : months[m.toNat - 1]? = some s) :
    Calls Tryd.prog 7 #[.int .i64 m] w fun e w' => e = .returned (.string ⟨s.toArray⟩) ∧ Grown w w' := by
  rcases (show m = 1 ∨ m = 2 ∨ m = 3 ∨ m = 4 ∨ m = 5 ∨ m = 6 ∨ m = 7 ∨ m = 8 ∨ m = 9 ∨ m = 10 ∨ m = 11 ∨ m = 12 by omega) with rfl | rfl | rfl | rfl | rfl | rfl | rfl | rfl | rfl | rfl | rfl | rfl
  all_goals
    obtain rfl := Option.some.inj hs
    clear hs h1 h2
    go_enter Tryd.func7, Tryd.ntmps7
    go_wp2
    go_ret
    exact ⟨rfl, (Grown.refl _).alloc _ _⟩

set_option maxHeartbeats 4000000 in
theorem walk (a0 : Int) (w0 : (Lit.int .i64 a0).wf = true) (w : World) (hL : laidMetH Tryd.prog Rows.fnMonthRow.laid w) :
    Calls Tryd.prog 3 #[.int .i64 a0] w fun e w' => e = .returned (.bool true) ∧ Grown w w' := by
  obtain ⟨b01, b02⟩ := bounds_of w0
  have HT := Lib.hid (of_laid hL)
  clear w0 hL
  by_cases h : 1 ≤ a0 ∧ a0 ≤ 12
  · obtain ⟨h1, h2⟩ := h
    obtain ⟨s, hs⟩ : ∃ s, months[a0.toNat - 1]? = some s := ⟨_, List.getElem?_eq_getElem (show _ < months.length by show _ < 12; omega)⟩
    have HS := Lib.hid hs
    clear hs
    go_enter Tryd.func3, Tryd.ntmps3
    go_wp2_with fail
    refine (month_good _ h1 h2 HT.out HS.out).mono ?_
    rintro e w' ⟨rfl, rfl⟩
    go_wp2_with fail
    refine (spec_walk _ _ _ h1 h2 HS.out).mono ?_
    rintro e v1 ⟨rfl, g1⟩
    have G1 := Lib.hid g1
    clear g1
    go_wp2
    go_ret
    exact ⟨ret_bool (by first | rfl | (simp; done)), G1.out⟩
  · have hs : months[4]? = some [77, 97, 121] := rfl
    have HS := Lib.hid hs
    clear hs
    rcases (show a0 < 1 ∨ 12 < a0 by omega) with h1 | h1
    all_goals
      clear h
      go_enter Tryd.func3, Tryd.ntmps3
      go_wp2_with fail
      refine (month_good (m := 5) _ (by omega) (by omega) HT.out HS.out).mono ?_
      rintro e w' ⟨rfl, rfl⟩
      go_wp2
      go_ret
      exact ⟨ret_bool (by first | rfl | (simp; done)), Grown.refl _⟩

end Go.Proofs.YtabnabpiiknelaaDoor.fnMonth
