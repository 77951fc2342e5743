/- Contract of time.ParseDuration: what the plain parse of XParsePlain reads, with the model's own reckoning of fractions. -/
import Derived.Test.YteejjhdfebhagaaDoorParseHelp
import Derived.Deep.CutRange
import Derived.Deep.DeepCutAuto
import Derived.Deep.CutBlock
import Derived.Deep.LoopGhost
import Derived.Outline
namespace Go.Proofs.YteejjhdfebhagaaDoor
open Go.ChangeShapes Go.WideShapes Go.ChangeAt Go.RowKit
set_option linter.unusedVariables false

set_option maxRecDepth 100000 in
set_option maxHeartbeats 4000000 in
theorem parse_any (vf : Nat → Nat → Nat → Nat) (s : ByteArray) (w : World) (hs : s.size ≤ 2000000) (hL : Laid w) (hQ : QuoteOk) (hR : Reck vf) :
    Calls Tryd.prog 28 #[.string s] w (ParsePost vf s.data.toList w) := by
  have HL := Lib.hid hL
  have HQ := Lib.hid hQ
  have HR := Lib.hid hR
  clear hL hQ hR
  go_enter Tryd.func28, Tryd.ntmps28
  go_upto_if 23 with (fail)
  go_cut [0, 6, 7] (fun x0 x6 x7 wx => ∃ (t : ByteArray) (b : Bool), unsign s.data.toList = (b, t.data.toList) ∧ t.size ≤ 2000000 ∧ x0 = .string t ∧ x6 = .bool b ∧ wx = w)
  case first =>
    -- [[
    as_aux_lemma =>
      by_cases h0 : s.size = 0
      · have HE := Lib.hid (empty_is h0)
        have hy := empty_yes h0
        rw [hy]
        clear h0 hy
        go_wp2
        go_meet
        case rel => exact ⟨s, false, by rw [HE.out]; rfl, hs, rfl, rfl, rfl⟩
      · have h1 : 0 < s.size := by omega
        have hne := empty_no h1
        rw [hne]
        clear hne
        obtain ⟨c, hcc⟩ : ∃ c, s[0] = c := ⟨_, rfl⟩
        have hat := drop_at s h1
        rw [List.drop_zero, hcc] at hat
        have HU := Lib.hid (unsign_cons hat)
        have HA := Lib.hid hat
        clear hat h0
        by_cases hm : c.toNat = 45
        · have hm' : c = 45 := by apply UInt8.toNat_inj.1; rw [hm]; rfl
          have hmi : ((c.toNat : Int) == 45) = true := by rw [beq_iff_eq]; omega
          have HM := Lib.hid hm'
          clear hm' hm
          go_wp2
          go_meet
          case rel =>
            refine ⟨s.extract 1 s.size, true, ?_, ?_, rfl, rfl, rfl⟩
            · rw [HU.out, HM.out, bs_drop, bs_list]; rfl
            · rw [bs_drop, bs_size, List.length_drop, list_len]; omega
        · have hm' : (c == 45) = false := by rw [beq_eq_false_iff_ne]; intro e; subst e; exact hm rfl
          have hmi : ((c.toNat : Int) == 45) = false := by rw [beq_eq_false_iff_ne]; omega
          have HM := Lib.hid hm'
          clear hm' hm
          by_cases hp : c.toNat = 43
          · have hp' : c = 43 := by apply UInt8.toNat_inj.1; rw [hp]; rfl
            have hpi : ((c.toNat : Int) == 43) = true := by rw [beq_iff_eq]; omega
            have HP := Lib.hid hp'
            clear hp' hp
            go_wp2
            go_meet
            case rel =>
              refine ⟨s.extract 1 s.size, false, ?_, ?_, rfl, rfl, rfl⟩
              · rw [HU.out, HM.out, HP.out, bs_drop, bs_list]; rfl
              · rw [bs_drop, bs_size, List.length_drop, list_len]; omega
          · have hp' : (c == 43) = false := by rw [beq_eq_false_iff_ne]; intro e; subst e; exact hp rfl
            have hpi : ((c.toNat : Int) == 43) = false := by rw [beq_eq_false_iff_ne]; omega
            have HP := Lib.hid hp'
            clear hp' hp
            go_wp2
            go_meet
            case rel =>
              refine ⟨s, false, ?_, hs, rfl, rfl, rfl⟩
              rw [HU.out, HM.out, HP.out, HA.out]; rfl
    -- ]]
  case rest =>
    as_aux_lemma =>
      obtain ⟨t, b, hu, ht, rfl, rfl, rfl⟩ := hcut
      have HU := Lib.hid hu
      clear hu
      by_cases h00 : t.data.toList = [48]
      · have k1 : (t.toList == [48]) = true := by rw [tl, h00]; rfl
        -- [[
        as_aux_lemma =>
          have H0 := Lib.hid h00
          clear h00
          go_wp2_with fail
          go_ret2
          exact ⟨Below.refl _ _, Or.inl ⟨0, parse_zero HU.out H0.out, rfl⟩⟩
        -- ]]
      · have k1 : (t.toList == [48]) = false := by rw [tl, beq_eq_false_iff_ne]; exact h00
        have H0 := Lib.hid h00
        clear h00
        by_cases h01 : t.size = 0
        · have k2 : t.toList.isEmpty = true := by have := empty_yes h01; simpa using this
          -- [[
          as_aux_lemma =>
            have H1 : Hid (t.data.toList = []) := Lib.hid (by rw [empty_is h01])
            clear h01
            go_wp2_with fail
            go_ret2
            exact ⟨(Below.refl _ _).alloc (Nat.le_refl _) _, Or.inr ⟨parse_empty HU.out H1.out, _, _, rfl⟩⟩
          -- ]]
        · have k2 : t.toList.isEmpty = false := by have := empty_no (s := t) (by omega); simpa using this
          have H1 : Hid (t.data.toList ≠ []) := Lib.hid (by intro e; have := list_len t; rw [e] at this; simp at this; omega)
          clear h01
          go_wp2_with fail
          clear k1 k2
          go_loopg [0, 5] t.size (fun gk x0 x5 wr => PRel vf t wc gk x0 x5 wr)
          case atStart => exact ⟨t, 0, 0, Nat.le_refl _, by omega, by omega, by omega, rfl, rfl, rfl, rfl⟩
          case round =>
            obtain ⟨r, d, n, hr1, hr2, hd1, hd2, hpl, rfl, rfl, rfl⟩ := hrel
            have HP := Lib.hid hpl
            clear hpl
            by_cases hr0 : r.size = 0
            · have k2 : r.toList.isEmpty = true := by have := empty_yes hr0; simpa using this
              -- [[
              as_aux_lemma =>
                have H2 : Hid (pl vf t.data.toList 0 = some d.toNat) := Lib.hid (by rw [HP.out, empty_is hr0]; rfl)
                clear hr0
                cases b
                · by_cases hd3 : d ≤ 9223372036854775807
                  · have hk : decide (9223372036854775807 < d) = false := by simpa using hd3
                    go_wp2_with fail
                    go_ret2
                    exact ⟨below_draw _ _, Or.inl ⟨d, by have := parse_pos HU.out H0.out H1.out H2.out (by unfold two63; omega); rw [this, Int.toNat_of_nonneg hd1], rfl⟩⟩
                  · have hk : decide (9223372036854775807 < d) = true := by simp; omega
                    go_wp2_with fail
                    go_ret2
                    exact ⟨below_drewN ((Below.refl _ _).alloc (Nat.le_refl _) _) _, Or.inr ⟨parse_big HU.out H0.out H1.out H2.out (by unfold two63; omega), _, _, rfl⟩⟩
                · by_cases hd3 : d ≤ 9223372036854775807
                  · go_wp2_with fail
                    go_ret2
                    exact ⟨below_draw _ _, Or.inl ⟨-d, by have := parse_neg HU.out H0.out H1.out H2.out; rw [this, Int.toNat_of_nonneg hd1], rfl⟩⟩
                  · obtain rfl : d = 9223372036854775808 := by omega
                    have hw : wrap64 (-wrap64 9223372036854775808) = -9223372036854775808 := by decide +kernel
                    go_wp2_with fail
                    go_ret2
                    exact ⟨below_draw _ _, Or.inl ⟨-9223372036854775808, by have := parse_neg HU.out H0.out H1.out H2.out; rw [this]; rfl, rfl⟩⟩
              -- ]]
            · have k2 : r.toList.isEmpty = false := by have := empty_no (s := r) (by omega); simpa using this
              have hr3 : 0 < r.size := by omega
              have hat := drop_at r hr3
              obtain ⟨c, hcc⟩ : ∃ c, r[0] = c := ⟨_, rfl⟩
              rw [List.drop_zero, hcc] at hat
              have HA := Lib.hid hat
              clear hat hr0
              go_upto_region 17 with (fail)
              clear k2
              go_cut [59] (fun x59 wx => ∃ m : Nat, x59 = .bool (inUnit c) ∧ wx = wc.drewN m)
              case first =>
                -- [[
                as_aux_lemma =>
                  have hcl : c.toNat < 256 := c.toNat_lt
                  by_cases h46 : c.toNat = 46
                  · have e1 : inUnit c = false := inUnit_46 h46
                    have e2 : ((c.toNat : Int) == 46) = true := by rw [beq_iff_eq]; omega
                    have E1 := Lib.hid e1
                    clear e1 h46
                    go_wp2_with fail
                    go_meet
                    case rel => exact ⟨_, by rw [E1.out], rfl⟩
                  · have e2 : ((c.toNat : Int) == 46) = false := by rw [beq_eq_false_iff_ne]; omega
                    by_cases h48 : 48 ≤ c.toNat
                    · by_cases h57 : c.toNat ≤ 57
                      · have e1 : inUnit c = false := inUnit_dig h48 h57
                        have E1 := Lib.hid e1
                        have e3 : decide ((c.toNat : Int) ≤ 57) = true := by simp; omega
                        have e4 : decide (48 ≤ (c.toNat : Int)) = true := by simp; omega
                        clear e1 h46 h48 h57
                        go_wp2_with fail
                        go_meet
                        case rel => exact ⟨_, by rw [E1.out], rfl⟩
                      · have e1 : inUnit c = true := inUnit_yes h46 (by omega)
                        have E1 := Lib.hid e1
                        have e3 : decide ((c.toNat : Int) ≤ 57) = false := by simp; omega
                        have e4 : decide (48 ≤ (c.toNat : Int)) = true := by simp; omega
                        clear e1 h46 h48 h57
                        go_wp2_with fail
                        go_meet
                        case rel => exact ⟨_, by rw [E1.out], rfl⟩
                    · have e1 : inUnit c = true := inUnit_yes h46 (by omega)
                      have E1 := Lib.hid e1
                      have e4 : decide (48 ≤ (c.toNat : Int)) = false := by simp; omega
                      clear e1 h46 h48
                      go_wp2_with fail
                      go_meet
                      case rel => exact ⟨_, by rw [E1.out], rfl⟩
                -- ]]
              case rest =>
                as_aux_lemma =>
                  obtain ⟨m, rfl, rfl⟩ := hcut
                  by_cases hun : inUnit c = true
                  · rw [hun]
                    have HN : Hid (parse vf s.data.toList = none) := Lib.hid (parse_none HU.out H0.out H1.out (by rw [HP.out]; exact pl_none (by rw [HA.out]; exact List.cons_ne_nil _ _) (by rw [HA.out]; exact step_unit hun)))
                    clear hun
                    go_wp2_with fail
                    go_ret2
                    exact ⟨below_drewN ((Below.refl _ _).alloc (Nat.le_refl _) _) _, Or.inr ⟨HN.out, _, _, rfl⟩⟩
                  · have hun' : inUnit c = false := by simpa using hun
                    have HI := Lib.hid hun'
                    rw [hun']
                    clear hun hun'
                    obtain ⟨te, ve, hce⟩ := (HL.out.below (below_draw wc m)).2
                    have hLI := lint_any r (wc.drewN m) (.iface te ve) (by omega) hce
                    clear hce
                    go_wp2_with fail
                    refine hLI.mono ?_
                    clear hLI
                    rintro e w' ⟨⟨n1, rfl⟩, ⟨v, r1, hv1, hv2, hlr, rfl⟩ | ⟨hlr, rfl⟩⟩
                    case inr =>
                      have HN : Hid (parse vf s.data.toList = none) := Lib.hid (parse_none HU.out H0.out H1.out (by rw [HP.out]; exact pl_none (by rw [HA.out]; exact List.cons_ne_nil _ _) (by rw [HA.out] at hlr ⊢; exact step_nolint HI.out hlr)))
                      clear hlr
                      go_wp2_with fail
                      go_ret2
                      exact ⟨below_drewN ((Below.refl _ _).alloc (Nat.le_refl _) _) _, Or.inr ⟨HN.out, _, _, rfl⟩⟩
                    case inl =>
                      have hl1 : r1.length ≤ r.size := by have := lint_len _ _ hlr; rw [list_len] at this; exact this
                      have HLR := Lib.hid hlr
                      clear hlr
                      obtain ⟨t1, ht1⟩ : ∃ t1, bs r1 = t1 := ⟨_, rfl⟩
                      have hs1 : t1.size = r1.length := by rw [← ht1]; rfl
                      have hs1' : t1.size ≤ r.size := by omega
                      have HT1 : Hid (t1.data.toList = r1) := Lib.hid (by rw [← ht1]; rfl)
                      rw [ht1]
                      clear ht1 hs1 hl1
                      go_upto_region 25 with (fail)
                      generalize hpre : ((r.size : Int) != (t1.size : Int)) = pre
                      have HPRE := Lib.hid hpre
                      clear hpre
                      go_cut [88] (fun x88 wx => ∃ m1 : Nat, x88 = .bool (head46 r1) ∧ wx = wc.drewN m1)
                      case first =>
                        -- [[
                        as_aux_lemma =>
                          by_cases h10 : t1.size = 0
                          · have k2 : t1.toList.isEmpty = true := by have := empty_yes h10; simpa using this
                            have E1 : Hid (head46 r1 = false) := Lib.hid (by rw [← HT1.out, empty_is h10]; rfl)
                            clear h10
                            go_wp2_with fail
                            go_meet
                            case rel => exact ⟨_, by rw [E1.out], rfl⟩
                          · have k2 : t1.toList.isEmpty = false := by have := empty_no (s := t1) (by omega); simpa using this
                            have h11 : 0 < t1.size := by omega
                            have hat := drop_at t1 h11
                            obtain ⟨c1, hcc1⟩ : ∃ c1, t1[0] = c1 := ⟨_, rfl⟩
                            rw [List.drop_zero, hcc1, HT1.out] at hat
                            have E1 : Hid (head46 r1 = (c1 == 46)) := Lib.hid (by rw [hat]; rfl)
                            clear hat h10
                            by_cases h46 : c1.toNat = 46
                            · have e2 : ((c1.toNat : Int) == 46) = true := by rw [beq_iff_eq]; omega
                              have E2 : Hid ((c1 == 46) = true) := Lib.hid (by rw [beq_iff_eq]; apply UInt8.toNat_inj.1; rw [h46]; rfl)
                              clear h46
                              go_wp2_with fail
                              go_meet
                              case rel => exact ⟨_, by rw [E1.out, E2.out], rfl⟩
                            · have e2 : ((c1.toNat : Int) == 46) = false := by rw [beq_eq_false_iff_ne]; omega
                              have E2 : Hid ((c1 == 46) = false) := Lib.hid (by rw [beq_eq_false_iff_ne]; intro e; subst e; exact h46 rfl)
                              clear h46
                              go_wp2_with fail
                              go_meet
                              case rel => exact ⟨_, by rw [E1.out, E2.out], rfl⟩
                        -- ]]
                      case rest =>
                        as_aux_lemma =>
                          obtain ⟨m1, rfl, rfl⟩ := hcut
                          go_upto_if 88 with (fail)
                          go_cut [0, 9, 10, 14] (fun x0 x9 x10 x14 wx => ∃ (m2 : Nat) (f : Int) (k : Nat) (r2 : ByteArray) (po : Bool), part r1 = (f.toNat, k, r2.data.toList, po) ∧ 0 ≤ f ∧ f ≤ 9223372036854775808 ∧ r2.size ≤ r.size ∧ x0 = .string r2 ∧ x9 = .int .u64 f ∧ x10 = .float .f64 (sc k) ∧ x14 = .bool po ∧ wx = wc.drewN m2)
                          case first =>
                            -- [[
                            as_aux_lemma =>
                              by_cases h46 : head46 r1 = true
                              · have hpos : 0 < t1.size := by rw [← list_len, HT1.out]; exact head46_pos h46
                                have HF : Hid (r1 = 46 :: r1.drop 1) := Lib.hid (head46_yes h46)
                                rw [h46]
                                clear h46
                                obtain ⟨t2, ht2⟩ : ∃ t2, t1.extract 1 t1.size = t2 := ⟨_, rfl⟩
                                have HT2 : Hid (t2.data.toList = r1.drop 1) := Lib.hid (by rw [← ht2, bs_drop, bs_list, HT1.out])
                                have hs2 : t2.size ≤ r.size := by rw [← list_len, HT2.out, List.length_drop, ← HT1.out, list_len]; omega
                                have hLF := lfrac_any t2 (wc.drewN m1) (by omega)
                                go_wp2_with fail
                                refine hLF.mono ?_
                                clear hLF ht2
                                rintro e w' ⟨⟨n2, rfl⟩, f, k, r2, hf1, hf2, hlf, rfl⟩
                                have hl2 : r2.length ≤ t2.size := by have := lfrac_len t2.data.toList 0 0 false; rw [hlf, list_len] at this; exact this
                                have HP2 : Hid (part r1 = (f.toNat, k, r2, r2.length != t2.size)) := Lib.hid (by rw [HF.out, part_point, ← HT2.out, hlf, list_len])
                                clear hlf
                                go_wp2_with fail
                                go_meet
                                case rel => exact ⟨_, f, k, bs r2, _, by rw [HP2.out, bne_int]; rfl, hf1, hf2, Nat.le_trans hl2 hs2, rfl, rfl, rfl, rfl, rfl⟩
                              · have h46' : head46 r1 = false := by simpa using h46
                                have HF : Hid (part r1 = (0, 0, r1, false)) := Lib.hid (part_no h46')
                                rw [h46']
                                clear h46 h46'
                                go_wp2_with fail
                                go_meet
                                case rel => exact ⟨_, 0, 0, t1, false, by rw [HF.out, HT1.out]; rfl, by omega, by omega, hs1', rfl, rfl, rfl, rfl, rfl⟩
                            -- ]]
                          case rest =>
                            as_aux_lemma =>
                              obtain ⟨m2, f, k, r2, po, hp2, hf1, hf2, hs2, rfl, rfl, rfl, rfl, rfl⟩ := hcut
                              have HP2 := Lib.hid hp2
                              clear hp2
                              go_upto_region 30 with (fail)
                              go_cut [108] (fun x108 wx => x108 = .bool (!pre && !po) ∧ wx = wc.drewN m2)
                              case first =>
                                -- [[
                                as_aux_lemma =>
                                  cases pre <;> cases po
                                  all_goals
                                    go_wp2_with fail
                                    go_meet
                                    case rel => exact ⟨rfl, rfl⟩
                                -- ]]
                              case rest =>
                                as_aux_lemma =>
                                  obtain ⟨rfl, rfl⟩ := hcut
                                  by_cases hno : (!pre && !po) = true
                                  · have HN : Hid (parse vf s.data.toList = none) := Lib.hid (parse_none HU.out H0.out H1.out (by
                                      rw [HP.out]
                                      exact pl_none (by rw [HA.out]; exact List.cons_ne_nil _ _) (by
                                        have hlr := HLR.out
                                        have hh : (r1.length == r.data.toList.length && !(part r1).2.2.2) = true := by
                                          rw [HP2.out, ← HT1.out, list_len, list_len]
                                          have := HPRE.out
                                          rw [Bool.and_eq_true] at hno ⊢
                                          refine ⟨?_, hno.2⟩
                                          rw [beq_iff_eq]
                                          have h9 := hno.1
                                          rw [← this] at h9
                                          simp at h9
                                          omega
                                        rw [HA.out] at hlr hh ⊢
                                        exact step_nodig HI.out hlr hh)))
                                    rw [hno]
                                    clear hno
                                    go_wp2_with fail
                                    go_ret2
                                    exact ⟨below_drewN ((Below.refl _ _).alloc (Nat.le_refl _) _) _, Or.inr ⟨HN.out, _, _, rfl⟩⟩
                                  · have hno' : (!pre && !po) = false := by simpa using hno
                                    have HST : Hid (step vf r.data.toList d.toNat = unitPart vf v.toNat f.toNat k r2.data.toList d.toNat) := Lib.hid (by
                                      have hlr := HLR.out
                                      have hh : (r1.length == r.data.toList.length && !po) = false := by
                                        rw [← HT1.out, list_len, list_len]
                                        have := HPRE.out
                                        cases po
                                        · have h9 : pre = true := by simpa using hno'
                                          rw [h9] at this
                                          have h8 : (t1.size == r.size) = false := by
                                            rw [beq_eq_false_iff_ne]
                                            intro e
                                            rw [e] at this
                                            simp at this
                                          rw [h8]; rfl
                                        · simp
                                      rw [HA.out] at hlr hh ⊢
                                      exact step_go HI.out hlr HP2.out hh)
                                    rw [hno']
                                    clear hno hno'
                                    go_upto_block 2 with (fail)
                                    go_cut [16, 17] (fun x16 x17 wx => x16 = .int .i64 (((r2.data.toList.takeWhile inUnit).length : Nat) : Int) ∧ wx = wc.drewN m2)
                                    case first =>
                                      -- [[
                                      as_aux_lemma =>
                                        go_wp2_with fail
                                        go_loopg [16, 17] r2.size (fun gk x16 x17 wr => ∃ i : Nat, r2.size - i ≤ gk ∧ i ≤ r2.size ∧ (r2.data.toList.takeWhile inUnit).length = i + ((r2.data.toList.drop i).takeWhile inUnit).length ∧ x16 = .int .i64 (i : Int) ∧ wr = wc.drewN m2)
                                        case atStart => exact ⟨0, by omega, by omega, by simp, rfl, rfl⟩
                                        case round =>
                                          obtain ⟨i, hi1, hi2, htw, rfl, rfl⟩ := hrel
                                          have HTW := Lib.hid htw
                                          clear htw
                                          by_cases hlt : i < r2.size
                                          · have hat := drop_at r2 hlt
                                            obtain ⟨c2, hcc2⟩ : ∃ c2, r2[i] = c2 := ⟨_, rfl⟩
                                            have HA2 : Hid (r2.data.toList.drop i = c2 :: r2.data.toList.drop (i + 1)) := Lib.hid (by rw [hat, hcc2])
                                            clear hat
                                            have hcl : c2.toNat < 256 := c2.toNat_lt
                                            by_cases h46 : c2.toNat = 46
                                            · have E1 : Hid (inUnit c2 = false) := Lib.hid (inUnit_46 h46)
                                              have e2 : ((c2.toNat : Int) == 46) = true := by rw [beq_iff_eq]; omega
                                              clear h46
                                              go_wp2_with fail
                                              go_meet
                                              case rel => exact ⟨by rw [HTW.out, HA2.out, tw_no E1.out]; rfl, rfl⟩
                                            · have e2 : ((c2.toNat : Int) == 46) = false := by rw [beq_eq_false_iff_ne]; omega
                                              by_cases h48 : 48 ≤ c2.toNat
                                              · by_cases h57 : c2.toNat ≤ 57
                                                · have E1 : Hid (inUnit c2 = false) := Lib.hid (inUnit_dig h48 h57)
                                                  have e3 : decide ((c2.toNat : Int) ≤ 57) = true := by simp; omega
                                                  have e4 : decide (48 ≤ (c2.toNat : Int)) = true := by simp; omega
                                                  clear h46 h48 h57
                                                  go_wp2_with fail
                                                  go_meet
                                                  case rel => exact ⟨by rw [HTW.out, HA2.out, tw_no E1.out]; rfl, rfl⟩
                                                · have E1 : Hid (inUnit c2 = true) := Lib.hid (inUnit_yes h46 (by omega))
                                                  have e3 : decide ((c2.toNat : Int) ≤ 57) = false := by simp; omega
                                                  have e4 : decide (48 ≤ (c2.toNat : Int)) = true := by simp; omega
                                                  clear h46 h48 h57
                                                  go_wp2_with fail
                                                  go_roundg (r2.size - (i + 1))
                                                  case measure => omega
                                                  case rel => exact ⟨i + 1, by omega, by omega, by rw [HTW.out, HA2.out, tw_yes E1.out]; omega, by go_num, rfl⟩
                                              · have E1 : Hid (inUnit c2 = true) := Lib.hid (inUnit_yes h46 (by omega))
                                                have e4 : decide (48 ≤ (c2.toNat : Int)) = false := by simp; omega
                                                clear h46 h48
                                                go_wp2_with fail
                                                go_roundg (r2.size - (i + 1))
                                                case measure => omega
                                                case rel => exact ⟨i + 1, by omega, by omega, by rw [HTW.out, HA2.out, tw_yes E1.out]; omega, by go_num, rfl⟩
                                          · have E1 : Hid (i = r2.size) := Lib.hid (by omega)
                                            go_wp2_with fail
                                            go_meet
                                            case rel => exact ⟨by rw [HTW.out, List.drop_of_length_le (by rw [list_len, E1.out]; exact Nat.le_refl _)]; rfl, rfl⟩
                                      -- ]]
                                    case rest =>
                                      as_aux_lemma =>
                                        obtain ⟨rfl, rfl⟩ := hcut
                                        obtain ⟨i, hi⟩ : ∃ i, (r2.data.toList.takeWhile inUnit).length = i := ⟨_, rfl⟩
                                        have hi1 : i ≤ r2.size := by rw [← hi, ← list_len]; exact (List.takeWhile_sublist _).length_le
                                        have HIT := Lib.hid hi
                                        rw [hi]
                                        clear hi
                                        by_cases hi0 : i = 0
                                        · obtain rfl := hi0
                                          have HN : Hid (parse vf s.data.toList = none) := Lib.hid (parse_none HU.out H0.out H1.out (by
                                            rw [HP.out]
                                            exact pl_none (by rw [HA.out]; exact List.cons_ne_nil _ _) (by
                                              rw [HST.out]
                                              unfold unitPart
                                              rw [if_pos (List.eq_nil_of_length_eq_zero HIT.out)])))
                                          go_wp2_with fail
                                          go_ret2
                                          exact ⟨below_drewN ((Below.refl _ _).alloc (Nat.le_refl _) _) _, Or.inr ⟨HN.out, _, _, rfl⟩⟩
                                        · have hib : ((i : Int) == 0) = false := by rw [beq_eq_false_iff_ne]; omega
                                          obtain ⟨u, hu⟩ : ∃ u, r2.extract 0 i = u := ⟨_, rfl⟩
                                          obtain ⟨r3, hr3'⟩ : ∃ r3, r2.extract i r2.size = r3 := ⟨_, rfl⟩
                                          have HUW : Hid (u.data.toList = r2.data.toList.takeWhile inUnit) := Lib.hid (by rw [← hu, bs_take, bs_list, ← HIT.out, take_tw])
                                          have HR3 : Hid (r3.data.toList = r2.data.toList.dropWhile inUnit) := Lib.hid (by rw [← hr3', bs_drop, bs_list, ← HIT.out, drop_tw])
                                          have hus : u.size = i := by rw [← list_len, HUW.out, HIT.out]
                                          have hus' : u.size ≤ 2000000 := by omega
                                          have h3s : r3.size < r.size := by
                                            have e3 := congrArg List.length (List.takeWhile_append_dropWhile (p := inUnit) (l := r2.data.toList))
                                            rw [List.length_append, HIT.out, ← HR3.out, list_len, list_len] at e3
                                            omega
                                          have HUN : Hid (r2.data.toList.takeWhile inUnit ≠ []) := Lib.hid (by intro e; have := HIT.out; rw [e] at this; simp at this; omega)
                                          clear hus
                                          obtain ⟨⟨bm, hbl, hbc, hlk⟩, _⟩ := HL.out
                                          have hlk1 := fun n' => hlk (wc.drewN n') rfl u (by unfold maxLen; omega)
                                          have hv0 : unitVal u.data.toList = unitVal (r2.data.toList.takeWhile inUnit) := by rw [HUW.out]
                                          rw [hv0] at hlk1
                                          clear hlk hv0 hi0
                                          cases hub : unitBy (r2.data.toList.takeWhile inUnit) with
                                          | none =>
                                            have hv1 : unitVal (r2.data.toList.takeWhile inUnit) = .tuple #[.int .u64 0, .bool false] := by unfold unitVal; rw [hub]
                                            rw [hv1] at hlk1
                                            have HN : Hid (parse vf s.data.toList = none) := Lib.hid (parse_none HU.out H0.out H1.out (by
                                              rw [HP.out]
                                              exact pl_none (by rw [HA.out]; exact List.cons_ne_nil _ _) (by
                                                rw [HST.out]
                                                unfold unitPart
                                                rw [if_neg HUN.out, hub])))
                                            clear hv1 hub
                                            -- [[
                                            as_aux_lemma =>
                                              go_wp2_with fail
                                              refine (HQ.out u _ hus').mono ?_
                                              rintro e w' ⟨hb, q, hq, rfl⟩
                                              have hq1 : q.size ≤ 32000002 := by omega
                                              have hb1 : Below wc.heap.size wc w' := (below_draw wc m2).trans hb
                                              clear hb hq hu hr3' hlk1
                                              go_wp2_with fail
                                              go_ret2
                                              exact ⟨hb1.alloc hb1.size _, Or.inr ⟨HN.out, _, _, rfl⟩⟩
                                            -- ]]
                                          | some B =>
                                            have hv1 : unitVal (r2.data.toList.takeWhile inUnit) = .tuple #[.int .u64 (B : Int), .bool true] := by unfold unitVal; rw [hub]
                                            rw [hv1] at hlk1
                                            have hBu := unitBy_is hub
                                            have HBU := Lib.hid hub
                                            clear hv1 hub
                                            obtain ⟨Bi, hBi⟩ : ∃ Bi : Int, (B : Int) = Bi := ⟨_, rfl⟩
                                            have hB1 : 1 ≤ Bi := by unfold isUnit at hBu; omega
                                            have hB2 : Bi ≤ 3600000000000 := by unfold isUnit at hBu; omega
                                            rw [hBi] at hlk1
                                            have HBI := Lib.hid hBi
                                            have HBU2 := Lib.hid hBu
                                            clear hBi hBu
                                            go_upto_region 44 with (fail)
                                            clear hu hr3' hlk1 hbc hbl
                                            have hBpos : 0 < B := by have := HBI.out; omega
                                            have hfk : f.toNat < 10 ^ k := by have := part_lt r1; rw [HP2.out] at this; exact this
                                            have hfl : f.toNat ≤ two63 := by unfold two63; omega
                                            obtain ⟨q, p, hq, hp, hx, hxb⟩ := HR.out f.toNat B k hfl hfk HBU2.out
                                            rw [Int.toNat_of_nonneg hf1] at hp
                                            rw [HBI.out] at hq
                                            obtain ⟨X, hX⟩ : ∃ X : Int, ((vf f.toNat B k : Nat) : Int) = X := ⟨_, rfl⟩
                                            rw [hX] at hx
                                            have hX0 : 0 ≤ X := by omega
                                            have hX1 : X ≤ 4611686018427387904 := by omega
                                            have HXV := Lib.hid hX
                                            have kq := fun w => run_float_arith (P := Tryd.prog) w .quo 30 .f64 _ _ q hq
                                            have km := fun w => run_float_arith (P := Tryd.prog) w .mul 30 .f64 _ _ p hp
                                            have kc := fun w => run_convert_float_int (P := Tryd.prog) w 30 29 .f64 .u64 p X (by rw [Tryd.underlying30]; rfl) Tryd.underlying29 hx
                                            have HFK := Lib.hid hfk
                                            clear hq hp hx hX hfk hfl hxb
                                            by_cases hov : two63 / B < v.toNat
                                            · have hov' : decide (9223372036854775808 / Bi < v) = true := by
                                                rw [decide_eq_true_iff, ← HBI.out]
                                                unfold two63 at hov
                                                have e9 : ((9223372036854775808 / B : Nat) : Int) = 9223372036854775808 / (B : Int) := by simp
                                                rw [← e9]; omega
                                              have HN : Hid (parse vf s.data.toList = none) := Lib.hid (parse_none HU.out H0.out H1.out (by
                                                rw [HP.out]
                                                exact pl_none (by rw [HA.out]; exact List.cons_ne_nil _ _) (by
                                                  rw [HST.out, unitPart_some HUN.out HBU.out, tally_over hov]; rfl)))
                                              -- [[
                                              as_aux_lemma =>
                                                clear hov kq km kc
                                                go_wp2_with fail
                                                go_ret2
                                                exact ⟨below_drewN ((Below.refl _ _).alloc (Nat.le_refl _) _) _, Or.inr ⟨HN.out, _, _, rfl⟩⟩
                                              -- ]]
                                            · have hov' : decide (9223372036854775808 / Bi < v) = false := by
                                                rw [decide_eq_false_iff_not, ← HBI.out]
                                                unfold two63 at hov
                                                have e9 : ((9223372036854775808 / B : Nat) : Int) = 9223372036854775808 / (B : Int) := by simp
                                                rw [← e9]; omega
                                              have hvb := over_no hBpos hov
                                              obtain ⟨P, hP⟩ : ∃ P : Int, v * Bi = P := ⟨_, rfl⟩
                                              have hPn : ((v.toNat * B : Nat) : Int) = P := by rw [← hP, ← HBI.out, Int.natCast_mul, Int.toNat_of_nonneg hv1]
                                              have hP0 : 0 ≤ P := by omega
                                              have hP1 : P ≤ 9223372036854775808 := by unfold two63 at hvb; omega
                                              have HPN := Lib.hid hPn
                                              have HOV := Lib.hid hov
                                              clear hvb hPn hov
                                              go_upto_if 172 with (fail)
                                              clear hov' hP
                                              go_cut [8] (fun x8 wx => ∃ V : Int, 0 ≤ V ∧ V ≤ 9223372036854775808 ∧ tally vf v.toNat f.toNat k B d.toNat = fin d.toNat V.toNat ∧ x8 = .int .u64 V ∧ wx = wc.drewN m2)
                                              case first =>
                                                by_cases hf0 : f ≤ 0
                                                · have HF0 : Hid (f.toNat = 0) := Lib.hid (by omega)
                                                  obtain rfl : f = 0 := by omega
                                                  clear kq km kc
                                                  go_wp2_with fail
                                                  go_meet
                                                  case rel => exact ⟨P, hP0, hP1, by rw [HF0.out, tally_f0 HOV.out]; congr 1; have := HPN.out; omega, rfl, rfl⟩
                                                · have hf9 : 0 < f := by omega
                                                  have hfp : 0 < f.toNat := by omega
                                                  have HFP := Lib.hid hfp
                                                  clear hf0 hfp
                                                  by_cases hV : P + X ≤ 9223372036854775808
                                                  · go_wp2_with fail
                                                    go_meet
                                                    case rel => exact ⟨P + X, by omega, hV, by rw [tally_fok HOV.out HFP.out (by have := HPN.out; have := HXV.out; unfold two63; omega)]; congr 1; have := HPN.out; have := HXV.out; omega, rfl, rfl⟩
                                                  · have HN : Hid (parse vf s.data.toList = none) := Lib.hid (parse_none HU.out H0.out H1.out (by
                                                      rw [HP.out]
                                                      exact pl_none (by rw [HA.out]; exact List.cons_ne_nil _ _) (by
                                                        rw [HST.out, unitPart_some HUN.out HBU.out, tally_fbig HOV.out HFP.out (by have := HPN.out; have := HXV.out; unfold two63; omega) (by have := HPN.out; have := HXV.out; unfold two64; omega)]; rfl)))
                                                    go_wp2_with fail
                                                    go_ret2
                                                    exact ⟨below_drewN ((Below.refl _ _).alloc (Nat.le_refl _) _) _, Or.inr ⟨HN.out, _, _, rfl⟩⟩
                                              case rest =>
                                                as_aux_lemma =>
                                                  obtain ⟨V, hV0, hV1, htal, rfl, rfl⟩ := hcut
                                                  clear kq km kc hP0 hP1 HPN hX0 hX1 HXV
                                                  have HST2 : Hid (step vf r.data.toList d.toNat = (fin d.toNat V.toNat).map fun x => (x, r3.data.toList)) := Lib.hid (by rw [HST.out, unitPart_some HUN.out HBU.out, htal, HR3.out])
                                                  clear htal
                                                  by_cases hS1 : d + V ≤ 9223372036854775808
                                                  · go_wp2_with fail
                                                    go_roundg r3.size
                                                    case measure => omega
                                                    case rel => exact ⟨r3, d + V, m2, Nat.le_refl _, by omega, by omega, hS1, by rw [HP.out]; refine pl_some ?_; rw [HST2.out, fin_ok (by unfold two63; omega), Option.map_some, Int.toNat_add hd1 hV0], rfl, rfl, rfl⟩
                                                  · by_cases hS2 : d + V < 18446744073709551616
                                                    · have HN : Hid (parse vf s.data.toList = none) := Lib.hid (parse_none HU.out H0.out H1.out (by
                                                        rw [HP.out]
                                                        exact pl_none (by rw [HA.out]; exact List.cons_ne_nil _ _) (by
                                                          rw [HST2.out, fin_big (by unfold two63; omega) (by unfold two64; omega)]; rfl)))
                                                      go_wp2_with fail
                                                      go_ret2
                                                      exact ⟨below_drewN ((Below.refl _ _).alloc (Nat.le_refl _) _) _, Or.inr ⟨HN.out, _, _, rfl⟩⟩
                                                    · obtain rfl : d = 9223372036854775808 := by omega
                                                      obtain rfl : V = 9223372036854775808 := by omega
                                                      have hww : IntKind.u64.wrap (9223372036854775808 + 9223372036854775808) = 0 := by decide +kernel
                                                      have hww2 : IntKind.u64.wrap 18446744073709551616 = 0 := by decide +kernel
                                                      go_wp2_with fail
                                                      go_roundg r3.size
                                                      case measure => omega
                                                      case rel => exact ⟨r3, 0, m2, Nat.le_refl _, by omega, by omega, by omega, by rw [HP.out]; refine pl_some ?_; rw [HST2.out, fin_wrap (by unfold two64; omega)]; rfl, rfl, rfl, rfl⟩

end Go.Proofs.YteejjhdfebhagaaDoor
