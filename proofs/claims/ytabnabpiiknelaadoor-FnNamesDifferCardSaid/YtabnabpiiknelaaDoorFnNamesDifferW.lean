/- The law FnNamesDiffer returns true for every input, where the listed package variables hold what the program lays into them. Names are different, and never empty. -/
import Derived.Test.YtabnabpiiknelaaDoorRows
import Derived.WalkKit
import Derived.ProofKit
import Derived.OpenShut
import Derived.Test.YtabnabpiiknelaaDoorNamesW
import Derived.Lib.Hide
namespace Go.Proofs.YtabnabpiiknelaaDoor.fnNamesDiffer
open Go.ChangeShapes Go.WideShapes Go.ChangeAt Go.RowKit
set_option linter.unusedVariables false

theorem tMon : (Tryd.prog.globals[0]?).map (·.type) = some 27 := by kernel_rfl
theorem tDay : (Tryd.prog.globals[1]?).map (·.type) = some 27 := by kernel_rfl
theorem gMon : Tryd.prog.globalNamed "time.longMonthNames" = some 0 := by kernel_rfl
theorem gDay : Tryd.prog.globalNamed "time.longDayNames" = some 1 := by kernel_rfl

theorem of_laid {W : World} (h : laidMetH Tryd.prog Rows.fnNamesDifferRow.laid W) : Tab W 0 months ∧ Tab W 1 days := by
  rw [MakeChecks.laidMetH_plain _ _ _ (by kernel_rfl)] at h
  obtain ⟨ps, ⟨g0, t0, cs0, f0, p0, q0, hg0, ht0, hv0, hd0, ⟨g1, t1, cs1, f1, p1, q1, hg1, ht1, hv1, hd1, _, _⟩, _⟩, _, _⟩ := h
  obtain rfl := Option.some.inj (gDay.symm.trans hg0)
  obtain rfl := Option.some.inj (tDay.symm.trans ht0)
  obtain rfl := Option.some.inj (gMon.symm.trans hg1)
  obtain rfl := Option.some.inj (tMon.symm.trans ht1)
  exact ⟨tab_of_trod (names := months) hg1 hv1 hd1 (by decide), tab_of_trod (names := days) hg0 hv0 hd0 (by decide)⟩

theorem mon_at {i : Nat} (h : i < 12) : ∃ s, months[i]? = some s ∧ s.isEmpty = false := by
  refine ⟨months[i]'h, List.getElem?_eq_getElem h, ?_⟩
  have : ∀ s ∈ months, s.isEmpty = false := by decide
  exact this _ (List.getElem_mem h)
theorem day_at {i : Nat} (h : i < 7) : ∃ s, days[i]? = some s ∧ s.isEmpty = false := by
  refine ⟨days[i]'h, List.getElem?_eq_getElem h, ?_⟩
  have : ∀ s ∈ days, s.isEmpty = false := by decide
  exact this _ (List.getElem_mem h)
theorem mon_inj {i j : Nat} {s : List UInt8} (hi : i < 12) (hj : j < 12) (h1 : months[i]? = some s) (h2 : months[j]? = some s) : i = j := by
  have : ∀ a : Fin 12, ∀ b : Fin 12, months[a.val]? = months[b.val]? → a = b := by decide
  have := this ⟨i, hi⟩ ⟨j, hj⟩ (by rw [h1, h2])
  exact congrArg Fin.val this
theorem day_inj {i j : Nat} {s : List UInt8} (hi : i < 7) (hj : j < 7) (h1 : days[i]? = some s) (h2 : days[j]? = some s) : i = j := by
  have : ∀ a : Fin 7, ∀ b : Fin 7, days[a.val]? = days[b.val]? → a = b := by decide
  have := this ⟨i, hi⟩ ⟨j, hj⟩ (by rw [h1, h2])
  exact congrArg Fin.val this

/-- whatever the number: some text that is not empty; the variables hold what they held -/
theorem month_text {m : Int} (w : World) (b1 : -9223372036854775808 ≤ m) (b2 : m ≤ 9223372036854775807) (h : Tab w 0 months) :
    ∃ (s : List UInt8) (W : World), s.isEmpty = false ∧ Grown w W ∧ (∀ g n, Tab w g n → Tab W g n) ∧ Calls Tryd.prog 6 #[.int .i64 m] w fun e w' => e = .returned (.string ⟨s.toArray⟩) ∧ W = w' := by
  by_cases hr : 1 ≤ m ∧ m ≤ 12
  · obtain ⟨s, hs, he⟩ := mon_at (i := m.toNat - 1) (by omega)
    exact ⟨s, w, he, Grown.refl _, fun _ _ h => h, month_good w hr.1 hr.2 h hs⟩
  · obtain ⟨l, hc⟩ := month_bad w b1 b2 (by omega)
    refine ⟨_, _, ?_, grown_bw (Grown.refl _) _ _ l, fun g n ht => tab_bw _ _ _ ht, hc.mono fun e w' ⟨h1, h2⟩ => ⟨h1, h2.symm⟩⟩
    rfl

/-- whatever the number: some text that is not empty; the variables hold what they held -/
theorem day_text {m : Int} (w : World) (b1 : -9223372036854775808 ≤ m) (b2 : m ≤ 9223372036854775807) (h : Tab w 1 days) :
    ∃ (s : List UInt8) (W : World), s.isEmpty = false ∧ Grown w W ∧ (∀ g n, Tab w g n → Tab W g n) ∧ Calls Tryd.prog 8 #[.int .i64 m] w fun e w' => e = .returned (.string ⟨s.toArray⟩) ∧ W = w' := by
  by_cases hr : 0 ≤ m ∧ m ≤ 6
  · obtain ⟨s, hs, he⟩ := day_at (i := m.toNat) (by omega)
    exact ⟨s, w, he, Grown.refl _, fun _ _ h => h, day_good w hr.1 hr.2 h hs⟩
  · obtain ⟨l, hc⟩ := day_bad w b1 b2 (by omega)
    refine ⟨_, _, ?_, grown_bw (Grown.refl _) _ _ l, fun g n ht => tab_bw _ _ _ ht, hc.mono fun e w' ⟨h1, h2⟩ => ⟨h1, h2.symm⟩⟩
    rfl

set_option maxHeartbeats 4000000 in
theorem walk (a0 : Int) (a1 : Int) (w0 : (Lit.int .i64 a0).wf = true) (w1 : (Lit.int .i64 a1).wf = true) (w : World) (hL : laidMetH Tryd.prog Rows.fnNamesDifferRow.laid w) :
    Calls Tryd.prog 5 #[.int .i64 a0, .int .i64 a1] w fun e w' => e = .returned (.bool true) ∧ Grown w w' := by
  obtain ⟨b01, b02⟩ := bounds_of w0
  obtain ⟨b11, b12⟩ := bounds_of w1
  obtain ⟨hm, hd⟩ := of_laid hL
  have HM := Lib.hid hm
  have HD := Lib.hid hd
  clear w0 w1 hL hm hd
  by_cases q4 : a0 < 0
  · obtain ⟨s1, W1, he1, g1, k1, c1⟩ := month_text (m := a0) w b01 b02 HM.out
    obtain ⟨s2, W2, he2, g2, k2, c2⟩ := day_text (m := a1) W1 b11 b12 (k1 _ _ HD.out)
    have G1 := Lib.hid g1
    have G2 := Lib.hid g2
    have C1 := Lib.hid c1
    have C2 := Lib.hid c2
    clear g1 g2 c1 c2 k1 k2
    go_enter Tryd.func5, Tryd.ntmps5
    go_wp2_with fail
    refine (C1.out).mono ?_
    rintro e w' ⟨rfl, rfl⟩
    go_wp2_with fail
    refine (C2.out).mono ?_
    rintro e w' ⟨rfl, rfl⟩
    go_wp2
    go_ret
    exact ⟨ret_bool (by first | rfl | (simp; done)), grown_trans G1.out G2.out⟩
  · have p4 : 0 ≤ a0 := by omega
    clear q4
    by_cases q3 : a1 < 0
    · obtain ⟨s1, W1, he1, g1, k1, c1⟩ := month_text (m := a0) w b01 b02 HM.out
      obtain ⟨s2, W2, he2, g2, k2, c2⟩ := day_text (m := a1) W1 b11 b12 (k1 _ _ HD.out)
      have G1 := Lib.hid g1
      have G2 := Lib.hid g2
      have C1 := Lib.hid c1
      have C2 := Lib.hid c2
      clear g1 g2 c1 c2 k1 k2
      go_enter Tryd.func5, Tryd.ntmps5
      go_wp2_with fail
      refine (C1.out).mono ?_
      rintro e w' ⟨rfl, rfl⟩
      go_wp2_with fail
      refine (C2.out).mono ?_
      rintro e w' ⟨rfl, rfl⟩
      go_wp2
      go_ret
      exact ⟨ret_bool (by first | rfl | (simp; done)), grown_trans G1.out G2.out⟩
    · have p3 : 0 ≤ a1 := by omega
      clear q3
      by_cases q2 : 11 < a0
      · obtain ⟨s1, W1, he1, g1, k1, c1⟩ := month_text (m := a0) w b01 b02 HM.out
        obtain ⟨s2, W2, he2, g2, k2, c2⟩ := day_text (m := a1) W1 b11 b12 (k1 _ _ HD.out)
        have G1 := Lib.hid g1
        have G2 := Lib.hid g2
        have C1 := Lib.hid c1
        have C2 := Lib.hid c2
        clear g1 g2 c1 c2 k1 k2
        go_enter Tryd.func5, Tryd.ntmps5
        go_wp2_with fail
        refine (C1.out).mono ?_
        rintro e w' ⟨rfl, rfl⟩
        go_wp2_with fail
        refine (C2.out).mono ?_
        rintro e w' ⟨rfl, rfl⟩
        go_wp2
        go_ret
        exact ⟨ret_bool (by first | rfl | (simp; done)), grown_trans G1.out G2.out⟩
      · have p2 : a0 ≤ 11 := by omega
        clear q2
        by_cases q1 : 11 < a1
        · obtain ⟨s1, W1, he1, g1, k1, c1⟩ := month_text (m := a0) w b01 b02 HM.out
          obtain ⟨s2, W2, he2, g2, k2, c2⟩ := day_text (m := a1) W1 b11 b12 (k1 _ _ HD.out)
          have G1 := Lib.hid g1
          have G2 := Lib.hid g2
          have C1 := Lib.hid c1
          have C2 := Lib.hid c2
          clear g1 g2 c1 c2 k1 k2
          go_enter Tryd.func5, Tryd.ntmps5
          go_wp2_with fail
          refine (C1.out).mono ?_
          rintro e w' ⟨rfl, rfl⟩
          go_wp2_with fail
          refine (C2.out).mono ?_
          rintro e w' ⟨rfl, rfl⟩
          go_wp2
          go_ret
          exact ⟨ret_bool (by first | rfl | (simp; done)), grown_trans G1.out G2.out⟩
        · have p1 : a1 ≤ 11 := by omega
          clear q1
          obtain ⟨x, hx, ex⟩ := mon_at (i := (a0 + 1).toNat - 1) (by omega)
          obtain ⟨y, hy, ey⟩ := mon_at (i := (a1 + 1).toNat - 1) (by omega)
          have hxy : (x == y) = (a0 == a1) := by
            by_cases h : a0 = a1
            · subst h
              rw [hx] at hy
              rw [Option.some.inj hy]; simp
            · have h1 : (a0 == a1) = false := by rw [beq_eq_false_iff_ne]; exact h
              rw [h1, beq_eq_false_iff_ne]
              intro e
              subst e
              have := mon_inj (by omega) (by omega) hx hy
              omega
          have HX := Lib.hid hx
          have HY := Lib.hid hy
          clear hx hy
          by_cases h : a0 = a1
          · subst h
            have hxy' : (x == y) = true := by rw [hxy]; simp
            clear hxy
            by_cases r1 : 6 < a0
            · go_enter Tryd.func5, Tryd.ntmps5
              go_wp2_with fail
              refine (month_good _ (by omega) (by omega) HM.out HX.out).mono ?_
              rintro e w' ⟨rfl, rfl⟩
              go_wp2_with fail
              refine (month_good _ (by omega) (by omega) HM.out HY.out).mono ?_
              rintro e w' ⟨rfl, rfl⟩
              go_wp2_with fail
              refine (month_good _ (by omega) (by omega) HM.out HX.out).mono ?_
              rintro e w' ⟨rfl, rfl⟩
              go_wp2
              go_ret
              exact ⟨ret_bool (by first | rfl | (simp; done)), Grown.refl _⟩
            · have r1' : a0 ≤ 6 := by omega
              clear r1
              obtain ⟨u, hu, eu⟩ := day_at (i := a0.toNat) (by omega)
              have HU := Lib.hid hu
              clear hu
              go_enter Tryd.func5, Tryd.ntmps5
              go_wp2_with fail
              refine (month_good _ (by omega) (by omega) HM.out HX.out).mono ?_
              rintro e w' ⟨rfl, rfl⟩
              go_wp2_with fail
              refine (month_good _ (by omega) (by omega) HM.out HY.out).mono ?_
              rintro e w' ⟨rfl, rfl⟩
              go_wp2_with fail
              refine (month_good _ (by omega) (by omega) HM.out HX.out).mono ?_
              rintro e w' ⟨rfl, rfl⟩
              go_wp2_with fail
              refine (day_good _ (by omega) (by omega) HD.out HU.out).mono ?_
              rintro e w' ⟨rfl, rfl⟩
              go_wp2_with fail
              refine (day_good _ (by omega) (by omega) HD.out HU.out).mono ?_
              rintro e w' ⟨rfl, rfl⟩
              go_wp2_with fail
              refine (day_good _ (by omega) (by omega) HD.out HU.out).mono ?_
              rintro e w' ⟨rfl, rfl⟩
              go_wp2
              go_ret
              exact ⟨ret_bool (by first | rfl | (simp; done)), Grown.refl _⟩
          · have h' : (a0 == a1) = false := by rw [beq_eq_false_iff_ne]; exact h
            have hxy' : (x == y) = false := by rw [hxy]; exact h'
            clear hxy
            by_cases r1 : 6 < a0
            · clear h
              go_enter Tryd.func5, Tryd.ntmps5
              go_wp2_with fail
              refine (month_good _ (by omega) (by omega) HM.out HX.out).mono ?_
              rintro e w' ⟨rfl, rfl⟩
              go_wp2_with fail
              refine (month_good _ (by omega) (by omega) HM.out HY.out).mono ?_
              rintro e w' ⟨rfl, rfl⟩
              go_wp2_with fail
              refine (month_good _ (by omega) (by omega) HM.out HX.out).mono ?_
              rintro e w' ⟨rfl, rfl⟩
              go_wp2
              go_ret
              exact ⟨ret_bool (by first | rfl | (simp; done)), Grown.refl _⟩
            · have r1' : a0 ≤ 6 := by omega
              clear r1
              by_cases r2 : 6 < a1
              · clear h
                go_enter Tryd.func5, Tryd.ntmps5
                go_wp2_with fail
                refine (month_good _ (by omega) (by omega) HM.out HX.out).mono ?_
                rintro e w' ⟨rfl, rfl⟩
                go_wp2_with fail
                refine (month_good _ (by omega) (by omega) HM.out HY.out).mono ?_
                rintro e w' ⟨rfl, rfl⟩
                go_wp2_with fail
                refine (month_good _ (by omega) (by omega) HM.out HX.out).mono ?_
                rintro e w' ⟨rfl, rfl⟩
                go_wp2
                go_ret
                exact ⟨ret_bool (by first | rfl | (simp; done)), Grown.refl _⟩
              · have r2' : a1 ≤ 6 := by omega
                clear r2
                obtain ⟨u, hu, eu⟩ := day_at (i := a0.toNat) (by omega)
                obtain ⟨v, hv, ev⟩ := day_at (i := a1.toNat) (by omega)
                have huv : (u == v) = false := by
                  rw [beq_eq_false_iff_ne]
                  intro e
                  subst e
                  have := day_inj (by omega) (by omega) hu hv
                  omega
                have HU := Lib.hid hu
                have HV := Lib.hid hv
                clear hu hv h
                go_enter Tryd.func5, Tryd.ntmps5
                go_wp2_with fail
                refine (month_good _ (by omega) (by omega) HM.out HX.out).mono ?_
                rintro e w' ⟨rfl, rfl⟩
                go_wp2_with fail
                refine (month_good _ (by omega) (by omega) HM.out HY.out).mono ?_
                rintro e w' ⟨rfl, rfl⟩
                go_wp2_with fail
                refine (month_good _ (by omega) (by omega) HM.out HX.out).mono ?_
                rintro e w' ⟨rfl, rfl⟩
                go_wp2_with fail
                refine (day_good _ (by omega) (by omega) HD.out HU.out).mono ?_
                rintro e w' ⟨rfl, rfl⟩
                go_wp2_with fail
                refine (day_good _ (by omega) (by omega) HD.out HV.out).mono ?_
                rintro e w' ⟨rfl, rfl⟩
                go_wp2_with fail
                refine (day_good _ (by omega) (by omega) HD.out HU.out).mono ?_
                rintro e w' ⟨rfl, rfl⟩
                go_wp2
                go_ret
                exact ⟨ret_bool (by first | rfl | (simp; done)), Grown.refl _⟩

end Go.Proofs.YtabnabpiiknelaaDoor.fnNamesDiffer
