/- Contract of the reference ParseSure: where it is sure, the plain parse reads the text as it says. -/
import Derived.Test.YteejjhdfebhagaaDoorSpecSureW
namespace Go.Proofs.YteejjhdfebhagaaDoor
open Go.ChangeShapes Go.WideShapes Go.ChangeAt Go.RowKit
set_option linter.unusedVariables false

def SurePost (l : List UInt8) (w : World) (e : Ending) (w' : World) : Prop :=
  w = w' ∧ ∃ d ok sure, (sure = true → Reads l d ok) ∧ e = .returned (.tuple #[.int .i64 d, .bool ok, .bool sure])

def isSign : List UInt8 → Bool
  | [] => false
  | c :: _ => c == 45 || c == 43

def SRel (t : ByteArray) (w : World) (gk : Nat) (x0 x6 x7 x8 : Value) (wr : World) : Prop :=
  ∃ (r : ByteArray) (sum : Int) (sure : Bool), r.size ≤ gk ∧ r.size ≤ 2000000 ∧ 0 ≤ sum ∧ sum ≤ 9223372036854775809 ∧ Inv t.data.toList r.data.toList sum.toNat sure ∧ x0 = .string r ∧ x6 = .int .u64 sum ∧ x7 = .bool true ∧ x8 = .bool sure ∧ w = wr

/-- what a piece of text adds, if the reference stays sure -/
def StepIs (s s3 : List UInt8) (X : Nat) : Prop := ∀ d, step vf s d = if X ≤ two63 then (fin d X).map (fun x => (x, s3)) else none

theorem reads_bad {l r : List UInt8} {b : Bool} (hu : unsign l = (b, r)) (h0 : r ≠ [48]) (h1 : r ≠ []) (h : pl vf r 0 = none) : Reads l 0 false := Or.inr ⟨rfl, rfl, parse_none hu h0 h1 h⟩
theorem u8_eq {c : UInt8} {n : UInt8} (h : c.toNat = n.toNat) : c = n := UInt8.toNat_inj.1 h
theorem u8_beq {c n : UInt8} (h : c.toNat = n.toNat) : (c == n) = true := by rw [beq_iff_eq]; exact u8_eq h
theorem u8_bne {c n : UInt8} (h : ¬ c.toNat = n.toNat) : (c == n) = false := by rw [beq_eq_false_iff_ne]; intro e; subst e; exact h rfl
theorem isEmpty_no {l : List UInt8} (h : l ≠ []) : l.isEmpty = false := by cases l with | nil => exact absurd rfl h | cons a t => rfl

theorem roomOf_le (b : Nat) : roomOf b ≤ 11 := by
  unfold roomOf
  repeat' split
  all_goals decide
theorem r2_nil {r : List UInt8} {sum : Nat} (h : R2 r [] sum) : (sum ≤ two63 ∧ pl vf r 0 = some sum) ∨ (two63 < sum ∧ pl vf r 0 = none) := h
theorem end_pos {l r : List UInt8} {sum : Int} (hu : unsign l = (false, r)) (h0 : r ≠ [48]) (h1 : r ≠ []) (h : R2 r [] sum.toNat) (hs0 : 0 ≤ sum) (hs : sum ≤ 9223372036854775807) : Reads l sum true := by
  rcases r2_nil h with ⟨h2, h3⟩ | ⟨h2, _⟩
  · refine Or.inl ⟨rfl, ?_⟩
    rw [parse_pos hu h0 h1 h3 (by unfold two63; omega), Int.toNat_of_nonneg hs0]
  · unfold two63 at h2; omega
theorem end_neg {l r : List UInt8} {sum : Int} (hu : unsign l = (true, r)) (h0 : r ≠ [48]) (h1 : r ≠ []) (h : R2 r [] sum.toNat) (hs0 : 0 ≤ sum) (hs : sum ≤ 9223372036854775808) : Reads l (-sum) true := by
  rcases r2_nil h with ⟨h2, h3⟩ | ⟨h2, _⟩
  · refine Or.inl ⟨rfl, ?_⟩
    rw [parse_neg hu h0 h1 h3, Int.toNat_of_nonneg hs0]
  · unfold two63 at h2; omega
theorem end_big {l r : List UInt8} {b : Bool} {sum : Int} (hu : unsign l = (b, r)) (h0 : r ≠ [48]) (h1 : r ≠ []) (h : R2 r [] sum.toNat) (hs : 9223372036854775808 < sum) : Reads l 0 false := by
  rcases r2_nil h with ⟨h2, h3⟩ | ⟨_, h3⟩
  · unfold two63 at h2; omega
  · exact reads_bad hu h0 h1 h3
theorem end_eq {l r : List UInt8} {sum : Int} (hu : unsign l = (false, r)) (h0 : r ≠ [48]) (h1 : r ≠ []) (h : R2 r [] sum.toNat) (hs : 9223372036854775807 < sum) : Reads l 0 false := by
  rcases r2_nil h with ⟨h2, h3⟩ | ⟨_, h3⟩
  · exact Or.inr ⟨rfl, rfl, parse_big hu h0 h1 h3 (by unfold two63; omega)⟩
  · exact reads_bad hu h0 h1 h3
theorem neg_wrap {n : Int} (h0 : 0 ≤ n) (h1 : n ≤ 9223372036854775808) : wrap64 (IntKind.u64.wrap (-n)) = -n := by
  have e : IntKind.u64.wrap (-n) = (-n) % 18446744073709551616 := by unfold IntKind.wrap; simp [IntKind.bits, IntKind.signed]
  rw [e]; unfold wrap64; omega

set_option maxRecDepth 100000 in
set_option maxHeartbeats 8000000 in
theorem sure_is (s : ByteArray) (w : World) (hs : s.size ≤ 2000000) : Calls Tryd.prog 23 #[.string s] w (SurePost s.data.toList w) := by
  go_enter Tryd.func23, Tryd.ntmps23
  go_upto_region 2 with (fail)
  go_cut [31] (fun x31 wx => x31 = .bool (isSign s.data.toList) ∧ w = wx)
  case first =>
    -- [[
    as_aux_lemma =>
      by_cases h0 : s.size = 0
      · have k2 : s.toList.isEmpty = true := by have := empty_yes h0; simpa using this
        have E1 : Hid (isSign s.data.toList = false) := Lib.hid (by rw [empty_is h0]; rfl)
        clear h0
        go_wp2_with fail
        go_meet
        case rel => exact ⟨by rw [E1.out], rfl⟩
      · have k2 : s.toList.isEmpty = false := by have := empty_no (s := s) (by omega); simpa using this
        have h1 : 0 < s.size := by omega
        have hat := drop_at s h1
        obtain ⟨c, hcc⟩ : ∃ c, s[0] = c := ⟨_, rfl⟩
        rw [List.drop_zero, hcc] at hat
        have E1 : Hid (isSign s.data.toList = (c == 45 || c == 43)) := Lib.hid (by rw [hat]; rfl)
        clear hat h0
        by_cases hm : c.toNat = 45
        · have e2 : ((c.toNat : Int) == 45) = true := by rw [beq_iff_eq]; omega
          have E2 := Lib.hid (u8_beq (c := c) (n := 45) hm)
          clear hm
          go_wp2_with fail
          go_meet
          case rel => exact ⟨by rw [E1.out, E2.out]; rfl, rfl⟩
        · have e2 : ((c.toNat : Int) == 45) = false := by rw [beq_eq_false_iff_ne]; omega
          have E2 := Lib.hid (u8_bne (c := c) (n := 45) hm)
          by_cases hp : c.toNat = 43
          · have e3 : ((c.toNat : Int) == 43) = true := by rw [beq_iff_eq]; omega
            have E3 := Lib.hid (u8_beq (c := c) (n := 43) hp)
            clear hm hp
            go_wp2_with fail
            go_meet
            case rel => exact ⟨by rw [E1.out, E2.out, E3.out]; rfl, rfl⟩
          · have e3 : ((c.toNat : Int) == 43) = false := by rw [beq_eq_false_iff_ne]; omega
            have E3 := Lib.hid (u8_bne (c := c) (n := 43) hp)
            clear hm hp
            go_wp2_with fail
            go_meet
            case rel => exact ⟨by rw [E1.out, E2.out, E3.out]; rfl, rfl⟩
    -- ]]
  case rest =>
    obtain ⟨rfl, rfl⟩ := hcut
    go_upto_if 31 with (fail)
    go_cut [0, 5] (fun x0 x5 wx => ∃ (t : ByteArray) (b : Bool), unsign s.data.toList = (b, t.data.toList) ∧ t.size ≤ 2000000 ∧ x0 = .string t ∧ x5 = .bool b ∧ w = wx)
    case first =>
      -- [[
      as_aux_lemma =>
        by_cases hsg : isSign s.data.toList = true
        · obtain ⟨c, tt, hct, hcs⟩ : ∃ c tt, s.data.toList = c :: tt ∧ (c = 45 ∨ c = 43) := by
            cases h : s.data.toList with
            | nil => rw [h] at hsg; cases hsg
            | cons c tt => rw [h] at hsg; exact ⟨c, tt, rfl, by simpa [isSign] using hsg⟩
          have h1 : 0 < s.size := by rw [← list_len, hct]; simp
          obtain ⟨c', hcc⟩ : ∃ c', s[0] = c' := ⟨_, rfl⟩
          have hat := drop_at s h1
          rw [List.drop_zero, hcc, hct] at hat
          obtain ⟨rfl, _⟩ := List.cons.inj hat
          have HC := Lib.hid hct
          rw [hsg]
          clear hat hsg
          rcases hcs with hc | hc
          · have e2 : ((c.toNat : Int) == 45) = true := by rw [hc]; rfl
            have HS := Lib.hid hc
            clear hc hct
            go_wp2_with fail
            go_meet
            case rel => exact ⟨s.extract 1 s.size, true, by rw [HC.out, HS.out, bs_drop, bs_list, HC.out]; rfl, by rw [bs_drop, bs_size, List.length_drop, list_len]; omega, rfl, rfl, rfl⟩
          · have e2 : ((c.toNat : Int) == 45) = false := by rw [hc]; rfl
            have HS := Lib.hid hc
            clear hc hct
            go_wp2_with fail
            go_meet
            case rel => exact ⟨s.extract 1 s.size, false, by rw [HC.out, HS.out, bs_drop, bs_list, HC.out]; rfl, by rw [bs_drop, bs_size, List.length_drop, list_len]; omega, rfl, rfl, rfl⟩
        · have hsg' : isSign s.data.toList = false := by simpa using hsg
          have HU : Hid (unsign s.data.toList = (false, s.data.toList)) := Lib.hid (by
            cases h : s.data.toList with
            | nil => rfl
            | cons c tt =>
              rw [h] at hsg'
              have h2 : (c == 45) = false ∧ (c == 43) = false := by unfold isSign at hsg'; exact Bool.or_eq_false_iff.1 hsg'
              unfold unsign
              dsimp only
              rw [h2.1, h2.2]
              rfl)
          rw [hsg']
          clear hsg hsg'
          go_wp2_with fail
          go_meet
          case rel => exact ⟨s, false, HU.out, hs, rfl, rfl, rfl⟩
      -- ]]
    case rest =>
      as_aux_lemma =>
        obtain ⟨t, b, hu, ht, rfl, rfl, rfl⟩ := hcut
        have HU := Lib.hid hu
        clear hu
        by_cases h00 : t.data.toList = [48]
        · have k1 : (t.toList == [48]) = true := by rw [tl, h00]; rfl
          -- [[
          have H0 := Lib.hid h00
          clear h00
          go_wp2_with fail
          go_ret3
          exact ⟨rfl, 0, true, true, (fun _ => Or.inl ⟨rfl, parse_zero HU.out H0.out⟩), rfl⟩
          -- ]]
        · have k1 : (t.toList == [48]) = false := by rw [tl, beq_eq_false_iff_ne]; exact h00
          have H0 := Lib.hid h00
          clear h00
          by_cases h01 : t.size = 0
          · have k2 : t.toList.isEmpty = true := by have := empty_yes h01; simpa using this
            -- [[
            have H1 : Hid (t.data.toList = []) := Lib.hid (by rw [empty_is h01])
            clear h01
            go_wp2_with fail
            go_ret3
            exact ⟨rfl, 0, false, true, (fun _ => Or.inr ⟨rfl, rfl, parse_empty HU.out H1.out⟩), rfl⟩
            -- ]]
          · have k2 : t.toList.isEmpty = false := by have := empty_no (s := t) (by omega); simpa using this
            have H1 : Hid (t.data.toList ≠ []) := Lib.hid (by intro e; have := list_len t; rw [e] at this; simp at this; omega)
            clear h01
            go_wp2_with fail
            clear k1 k2
            go_loopg [0, 6, 7, 8] t.size (fun gk x0 x6 x7 x8 wr => SRel t w gk x0 x6 x7 x8 wr)
            case atStart => exact ⟨t, 0, true, Nat.le_refl _, by omega, by omega, by omega, inv_start _, rfl, rfl, rfl, rfl, rfl⟩
            case round =>
              as_aux_lemma =>
                obtain ⟨r, sum, sure, hr1, hr2, hm1, hm2, hinv, rfl, rfl, rfl, rfl, rfl⟩ := hrel
                have HI := Lib.hid hinv
                clear hinv
                by_cases hr0 : r.size = 0
                · have k2 : r.toList.isEmpty = true := by have := empty_yes hr0; simpa using this
                  have HE : Hid (sure = true → R2 t.data.toList [] sum.toNat) := Lib.hid (by have := HI.out.2; rw [empty_is hr0] at this; exact this)
                  clear hr0
                  -- [[
                  cases b
                  · by_cases hs1 : sum ≤ 9223372036854775807
                    · have e9 : (sum == 9223372036854775808) = false := by rw [beq_eq_false_iff_ne]; omega
                      go_wp2_with fail
                      go_ret3
                      exact ⟨rfl, sum, true, sure, (fun h => end_pos HU.out H0.out H1.out (HE.out h) hm1 hs1), rfl⟩
                    · by_cases hs2 : sum = 9223372036854775808
                      · have HS : Hid (9223372036854775807 < sum) := Lib.hid (by omega)
                        subst hs2
                        go_wp2_with fail
                        go_ret3
                        exact ⟨rfl, 0, false, sure, (fun h => end_eq HU.out H0.out H1.out (HE.out h) HS.out), rfl⟩
                      · have hs3 : 9223372036854775808 < sum := by omega
                        clear hs1 hs2
                        go_wp2_with fail
                        go_ret3
                        exact ⟨rfl, 0, false, sure, (fun h => end_big HU.out H0.out H1.out (HE.out h) hs3), rfl⟩
                  · by_cases hs3 : 9223372036854775808 < sum
                    · go_wp2_with fail
                      go_ret3
                      exact ⟨rfl, 0, false, sure, (fun h => end_big HU.out H0.out H1.out (HE.out h) hs3), rfl⟩
                    · by_cases hs2 : sum = 9223372036854775808
                      · have HS : Hid (sum ≤ 9223372036854775808) := Lib.hid (by omega)
                        have hw := neg_wrap hm1 HS.out
                        subst hs2
                        go_wp2_with fail
                        go_ret3
                        exact ⟨rfl, -9223372036854775808, true, sure, (fun h => end_neg HU.out H0.out H1.out (HE.out h) (by omega) HS.out), rfl⟩
                      · have HS : Hid (sum ≤ 9223372036854775808) := Lib.hid (by omega)
                        have hw := neg_wrap hm1 HS.out
                        have HW := Lib.hid hw
                        have e9 : (sum == 9223372036854775808) = false := by rw [beq_eq_false_iff_ne]; omega
                        have hs4 : sum ≤ 9223372036854775808 := by omega
                        clear hs2 hs3 hw
                        go_wp2_with fail
                        go_ret3
                        exact ⟨rfl, -sum, true, sure, (fun h => end_neg HU.out H0.out H1.out (HE.out h) hm1 HS.out), congrArg (fun z => Ending.returned (.tuple #[.int .i64 z, .bool true, .bool sure])) HW.out⟩
                  -- ]]
                · have k2 : r.toList.isEmpty = false := by have := empty_no (s := r) (by omega); simpa using this
                  have HNE : Hid (r.data.toList ≠ []) := Lib.hid (by intro e; have := list_len r; rw [e] at this; simp at this; omega)
                  clear hr0
                  obtain ⟨A, hA⟩ : ∃ A, r.data.toList.takeWhile isDig = A := ⟨_, rfl⟩
                  have cR := fun w => run_is (s := r) w (by omega) hA
                  have hAl : A.length ≤ r.size := by rw [← hA, ← list_len]; exact (List.takeWhile_sublist _).length_le
                  obtain ⟨r1, hr1'⟩ : ∃ r1, r.extract A.length r.size = r1 := ⟨_, rfl⟩
                  have HR1 : Hid (r1.data.toList = r.data.toList.dropWhile isDig) := Lib.hid (by rw [← hr1', bs_drop, bs_list, ← hA, drop_twd])
                  have hr1s : r1.size ≤ r.size := by rw [← hr1', bs_drop, bs_size, List.length_drop, list_len]; omega
                  have HA := Lib.hid hA
                  clear hA
                  go_wp2_with fail
                  refine (cR _).mono ?_
                  rintro e v1 ⟨rfl, rfl⟩
                  clear cR
                  go_upto_region 15 with (fail)
                  clear hr1'
                  go_cut [58] (fun x58 wx => x58 = .bool (head46 r1.data.toList) ∧ w = wx)
                  case first =>
                    -- [[
                    as_aux_lemma =>
                      by_cases h10 : r1.size = 0
                      · have k3 : r1.toList.isEmpty = true := by have := empty_yes h10; simpa using this
                        have E1 : Hid (head46 r1.data.toList = false) := Lib.hid (by rw [empty_is h10]; rfl)
                        clear h10
                        go_wp2_with fail
                        go_meet
                        case rel => exact ⟨by rw [E1.out], rfl⟩
                      · have k3 : r1.toList.isEmpty = false := by have := empty_no (s := r1) (by omega); simpa using this
                        have h11 : 0 < r1.size := by omega
                        have hat := drop_at r1 h11
                        obtain ⟨c1, hcc1⟩ : ∃ c1, r1[0] = c1 := ⟨_, rfl⟩
                        rw [List.drop_zero, hcc1] at hat
                        have E1 : Hid (head46 r1.data.toList = (c1 == 46)) := Lib.hid (by rw [hat]; rfl)
                        clear hat h10
                        by_cases h46 : c1.toNat = 46
                        · have e2 : ((c1.toNat : Int) == 46) = true := by rw [beq_iff_eq]; omega
                          have E2 := Lib.hid (u8_beq (c := c1) (n := 46) h46)
                          clear h46
                          go_wp2_with fail
                          go_meet
                          case rel => exact ⟨by rw [E1.out, E2.out], rfl⟩
                        · have e2 : ((c1.toNat : Int) == 46) = false := by rw [beq_eq_false_iff_ne]; omega
                          have E2 := Lib.hid (u8_bne (c := c1) (n := 46) h46)
                          clear h46
                          go_wp2_with fail
                          go_meet
                          case rel => exact ⟨by rw [E1.out, E2.out], rfl⟩
                    -- ]]
                  case rest =>
                    obtain ⟨rfl, rfl⟩ := hcut
                    go_upto_if 58 with (fail)
                    go_cut [0, 10, 11] (fun x0 x10 x11 wx => ∃ (s2 F : ByteArray) (B : List UInt8) (point : Bool), After (r.data.toList.dropWhile isDig) point B s2.data.toList ∧ s2.size ≤ r.size ∧ F.data.toList = B ∧ F.size ≤ r.size ∧ x0 = .string s2 ∧ x10 = .string F ∧ x11 = .bool point ∧ w = wx)
                    case first =>
                      -- [[
                      as_aux_lemma =>
                        by_cases h46 : head46 r1.data.toList = true
                        · have hp1 : 0 < r1.size := by rw [← list_len]; exact head46_pos h46
                          have HF := Lib.hid (head46_yes h46)
                          rw [h46]
                          clear h46
                          obtain ⟨t1, ht1⟩ : ∃ t1, r1.extract 1 r1.size = t1 := ⟨_, rfl⟩
                          have HT1 : Hid (t1.data.toList = r1.data.toList.drop 1) := Lib.hid (by rw [← ht1, bs_drop, bs_list])
                          have ht1a : t1.size + 1 ≤ r1.size := by rw [← ht1, bs_drop, bs_size, List.length_drop, list_len]; omega
                          have ht1b : r1.size ≤ t1.size + 1 := by rw [← ht1, bs_drop, bs_size, List.length_drop, list_len]; omega
                          obtain ⟨B, hB⟩ : ∃ B, t1.data.toList.takeWhile isDig = B := ⟨_, rfl⟩
                          have cB := fun w => run_is (s := t1) w (by omega) hB
                          have hBl : B.length ≤ t1.size := by rw [← hB, ← list_len]; exact (List.takeWhile_sublist _).length_le
                          obtain ⟨s2, hs2⟩ : ∃ s2, r1.extract (1 + B.length) r1.size = s2 := ⟨_, rfl⟩
                          have HS2 : Hid (s2.data.toList = t1.data.toList.dropWhile isDig) := Lib.hid (by rw [← hs2, bs_drop, bs_list, ← drop_twd, hB, HT1.out, List.drop_drop])
                          have hs2s : s2.size ≤ r1.size := by rw [← hs2, bs_drop, bs_size, List.length_drop, list_len]; omega
                          have HBB := Lib.hid hB
                          have HS2E := Lib.hid hs2
                          have hB0 : B.length ≤ 2000000 := by omega
                          clear hB
                          go_wp2_with fail
                          refine (cB _).mono ?_
                          rintro e v1 ⟨rfl, rfl⟩
                          clear cB
                          go_wp2_with fail
                          go_meet
                          case rel => exact ⟨s2, bs B, B, true, Or.inl ⟨rfl, t1.data.toList, by rw [← HR1.out, HT1.out]; exact HF.out, HBB.out.symm, HS2.out⟩, by omega, rfl, by rw [bs_size]; omega, by first | rfl | rw [HS2E.out], rfl, rfl, rfl⟩
                        · have h46' : head46 r1.data.toList = false := by simpa using h46
                          have HF := Lib.hid h46'
                          rw [h46']
                          clear h46 h46'
                          go_wp2_with fail
                          go_meet
                          case rel => exact ⟨r1, ⟨#[]⟩, [], false, Or.inr ⟨rfl, by rw [← HR1.out]; exact HF.out, rfl, HR1.out⟩, hr1s, rfl, by show 0 ≤ _; omega, rfl, rfl, rfl, rfl⟩
                      -- ]]
                    case rest =>
                      as_aux_lemma =>
                        obtain ⟨s2, F, B, point, haft, hs2, hFB, hBl, rfl, rfl, rfl, rfl⟩ := hcut
                        have HAF := Lib.hid haft
                        have HFB := Lib.hid hFB
                        have hFs : F.size = B.length := by rw [← list_len, hFB]
                        have HFS := Lib.hid hFs
                        have hFe : F.toList = B := by rw [tl, hFB]
                        have HFE : Hid (F = ⟨B.toArray⟩) := Lib.hid (by subst hFB; exact (bs_of F).symm)
                        clear haft hFB hFs
                        obtain ⟨u, hu⟩ : ∃ u, s2.data.toList.takeWhile inUnit = u := ⟨_, rfl⟩
                        have cU := fun w => unit_is (s := s2) w (by omega) hu
                        have HUU := Lib.hid hu
                        have hul : u.length ≤ s2.size := by rw [← hu, ← list_len]; exact (List.takeWhile_sublist _).length_le
                        clear hu
                        cases hub : unitBy u with
                        | none =>
                          have hres : unitRes u = .tuple #[.int .u64 0, .int .i64 0, .int .i64 0] := by unfold unitRes; rw [hub]
                          unfold UnitPost at cU
                          rw [hres] at cU
                          have HN : Hid (pl vf t.data.toList 0 = none) := Lib.hid (inv_bad HI.out HNE.out HAF.out (Or.inl (by rw [HUU.out]; exact hub)))
                          clear hres hub
                          -- [[
                          go_wp2_with fail
                          refine (cU _).mono ?_
                          rintro e v1 ⟨rfl, rfl⟩
                          clear cU
                          go_wp2_with fail
                          go_ret3
                          exact ⟨rfl, 0, false, true, (fun _ => reads_bad HU.out H0.out H1.out HN.out), rfl⟩
                          -- ]]
                        | some b =>
                          have hres : unitRes u = .tuple #[.int .u64 (b : Int), .int .i64 (roomOf b : Int), .int .i64 (u.length : Int)] := by unfold unitRes; rw [hub]
                          unfold UnitPost at cU
                          rw [hres] at cU
                          have HBU : Hid (unitBy (s2.data.toList.takeWhile inUnit) = some b) := Lib.hid (by rw [HUU.out]; exact hub)
                          have hbu := unitBy_is hub
                          obtain ⟨Bi, hBi⟩ : ∃ Bi : Int, (b : Int) = Bi := ⟨_, rfl⟩
                          have hB1 : 1 ≤ Bi := by unfold isUnit at hbu; omega
                          have hB2 : Bi ≤ 3600000000000 := by unfold isUnit at hbu; omega
                          obtain ⟨R, hR⟩ : ∃ R : Int, (roomOf b : Int) = R := ⟨_, rfl⟩
                          have hR0 : 0 ≤ R := by omega
                          have hR1 : R ≤ 11 := by have := roomOf_le b; omega
                          rw [hBi, hR] at cU
                          have HBI := Lib.hid hBi
                          have HRR := Lib.hid hR
                          have HBS := Lib.hid hbu
                          have hB0 : (Bi == 0) = false := by rw [beq_eq_false_iff_ne]; omega
                          obtain ⟨s3, hs3⟩ : ∃ s3, s2.extract u.length s2.size = s3 := ⟨_, rfl⟩
                          have HS3 : Hid (s3.data.toList = s2.data.toList.dropWhile inUnit) := Lib.hid (by rw [← hs3, bs_drop, bs_list, ← drop_tw, HUU.out])
                          clear hres hub hbu hBi hR
                          go_wp2_with fail
                          refine (cU _).mono ?_
                          rintro e v1 ⟨rfl, rfl⟩
                          clear cU
                          go_upto_region 21 with (fail)
                          clear hs3
                          go_cut [85] (fun x85 wx => x85 = .bool (A.isEmpty && B.isEmpty) ∧ w = wx)
                          case first =>
                            -- [[
                            as_aux_lemma =>
                              cases hAe : A.isEmpty <;> cases hBe : B.isEmpty
                              all_goals
                                have HAe := Lib.hid hAe
                                have HBe := Lib.hid hBe
                                go_wp2_with fail
                                go_meet
                                case rel => exact ⟨by rw [HAe.out, HBe.out]; rfl, rfl⟩
                            -- ]]
                          case rest =>
                            obtain ⟨rfl, rfl⟩ := hcut
                            by_cases hbad : (A.isEmpty && B.isEmpty) = true
                            · have HN : Hid (pl vf t.data.toList 0 = none) := Lib.hid (inv_bad HI.out HNE.out HAF.out (Or.inr (by
                                rw [Bool.and_eq_true, List.isEmpty_iff, List.isEmpty_iff] at hbad
                                rw [HA.out]
                                exact hbad)))
                              rw [hbad]
                              clear hbad
                              -- [[
                              go_wp2_with fail
                              go_ret3
                              exact ⟨rfl, 0, false, true, (fun _ => reads_bad HU.out H0.out H1.out HN.out), rfl⟩
                              -- ]]
                            · have hbad' : (A.isEmpty && B.isEmpty) = false := by simpa using hbad
                              have HAB : Hid (¬ (r.data.toList.takeWhile isDig = [] ∧ B = [])) := Lib.hid (by
                                rintro ⟨e1, e2⟩
                                rw [HA.out] at e1
                                subst e1
                                subst e2
                                cases hbad')
                              rw [hbad']
                              clear hbad hbad'
                              obtain ⟨T1, hT1⟩ : ∃ T1 : Int, ((min (dval A 0 * b) (two63 + 1) : Nat) : Int) = T1 := ⟨_, rfl⟩
                              have hAd : digits A := by rw [← HA.out]; exact tw_digits _
                              have cT := fun w => times_is w (by omega) hAd HBI.out hB1 hB2 hT1
                              have hT0 : 0 ≤ T1 := by omega
                              have hT9 : T1 ≤ 9223372036854775809 := by rw [← hT1]; unfold two63; omega
                              have HT1 := Lib.hid hT1
                              have HAD := Lib.hid hAd
                              clear hT1 hAd
                              go_wp2_with fail
                              refine (cT _).mono ?_
                              rintro e v1 ⟨rfl, rfl⟩
                              clear cT
                              go_upto_block 2 with (fail)
                              clear hFe
                              obtain ⟨Z, hZ⟩ : ∃ Z, B.all (· == 48) = Z := ⟨_, rfl⟩
                              have HZ := Lib.hid hZ
                              clear hZ
                              go_cut [16, 17] (fun x16 x17 wx => x16 = .bool Z ∧ w = wx)
                              case first =>
                                -- [[
                                as_aux_lemma =>
                                  go_wp2_with fail
                                  go_loopg [16, 17] F.size (fun gk x16 x17 wr => ∃ (i : Nat) (z : Bool), i ≤ F.size ∧ F.size - i ≤ gk ∧ (B.take i).all (· == 48) = z ∧ x16 = .bool z ∧ x17 = .int .i64 (i : Int) ∧ w = wr)
                                  case atStart => exact ⟨0, true, by omega, by omega, by simp, rfl, rfl, rfl⟩
                                  case round =>
                                    obtain ⟨i, z, hi1, hi2, hz, rfl, rfl, rfl⟩ := hrel
                                    have HZZ := Lib.hid hz
                                    clear hz
                                    by_cases hlt : i < F.size
                                    · obtain ⟨c, hcc⟩ : ∃ c, F[i] = c := ⟨_, rfl⟩
                                      have hcl : c.toNat < 256 := c.toNat_lt
                                      have HTK : Hid ((B.take (i + 1)).all (· == 48) = (z && c == 48)) := Lib.hid (by
                                        have e1 : F.data.toList.take (i + 1) = F.data.toList.take i ++ [c] := by
                                          rw [List.take_succ_eq_append_getElem (by rw [list_len]; exact hlt), ← hcc]; rfl
                                        rw [HFB.out] at e1
                                        rw [e1, List.all_append, HZZ.out]
                                        simp)
                                      cases z
                                      · go_wp2_with fail
                                        go_roundg (F.size - (i + 1))
                                        case measure => omega
                                        case rel => exact ⟨i + 1, false, by omega, by omega, by rw [HTK.out]; rfl, rfl, by go_num, rfl⟩
                                      · by_cases h48 : c.toNat = 48
                                        · have e2 : ((c.toNat : Int) == 48) = true := by rw [beq_iff_eq]; omega
                                          have E2 := Lib.hid (u8_beq (c := c) (n := 48) h48)
                                          clear h48
                                          go_wp2_with fail
                                          go_roundg (F.size - (i + 1))
                                          case measure => omega
                                          case rel => exact ⟨i + 1, true, by omega, by omega, by rw [HTK.out, E2.out]; rfl, rfl, by go_num, rfl⟩
                                        · have e2 : ((c.toNat : Int) == 48) = false := by rw [beq_eq_false_iff_ne]; omega
                                          have E2 := Lib.hid (u8_bne (c := c) (n := 48) h48)
                                          clear h48
                                          go_wp2_with fail
                                          go_roundg (F.size - (i + 1))
                                          case measure => omega
                                          case rel => exact ⟨i + 1, false, by omega, by omega, by rw [HTK.out, E2.out]; rfl, rfl, by go_num, rfl⟩
                                    · have HE : Hid (z = Z) := Lib.hid (by rw [← HZZ.out, ← HZ.out, List.take_of_length_le (by have := HFS.out; omega)])
                                      go_wp2_with fail
                                      go_meet
                                      case rel => exact ⟨by rw [HE.out], rfl⟩
                                -- ]]
                              case rest =>
                                obtain ⟨rfl, rfl⟩ := hcut
                                go_upto_region 29 with (fail)
                                go_cut [106] (fun x106 wx => x106 = .bool (point && !Z) ∧ w = wx)
                                case first =>
                                  -- [[
                                  as_aux_lemma =>
                                    cases point <;> cases Z
                                    all_goals
                                      go_wp2_with fail
                                      go_meet
                                      case rel => exact ⟨rfl, rfl⟩
                                  -- ]]
                                case rest =>
                                  obtain ⟨rfl, rfl⟩ := hcut
                                  go_upto_if 106 with (fail)
                                  go_cut [8, 15, 18, 19] (fun x8 x15 x18 x19 wx => ∃ (sure' : Bool) (X : Int), 0 ≤ X ∧ X ≤ 9223372036854775809 ∧ (sure' = true → sure = true ∧ StepIs r.data.toList s3.data.toList X.toNat) ∧ x8 = .bool sure' ∧ x15 = .int .u64 X ∧ w = wx)
                                  case first =>
                                    -- [[
                                    as_aux_lemma =>
                                      have hBd : digits B := HAF.out.digits
                                      by_cases hq : (point && !Z) = true
                                      · rw [hq]
                                        clear hq
                                        have HBD := Lib.hid hBd
                                        clear hBd
                                        by_cases hm : (B.length : Int) ≤ R
                                        · have hm' : (F.size : Int) ≤ R := by have := HFS.out; omega
                                          have hmn : B.length ≤ roomOf b := by have := HRR.out; omega
                                          obtain ⟨hq1, hq2, h11⟩ := room_div HBS.out hmn
                                          have HQ := Lib.hid (step_frac HNE.out HAF.out HAB.out HBU.out hmn)
                                          have HQ2 := Lib.hid hq2
                                          clear hq1 hq2 hmn hm
                                          go_wp2_with fail
                                          go_loopg [18, 19] F.size (fun gk x18 x19 wr => ∃ (i : Nat) (p : Int), i ≤ F.size ∧ F.size - i ≤ gk ∧ 0 ≤ p ∧ p ≤ 3600000000000 ∧ p = ((b / 10 ^ i : Nat) : Int) ∧ x18 = .int .u64 p ∧ x19 = .int .i64 (i : Int) ∧ w = wr)
                                          case atStart => exact ⟨0, Bi, by omega, by omega, by omega, by omega, by rw [Nat.pow_zero, Nat.div_one]; exact HBI.out.symm, rfl, rfl, rfl⟩
                                          case round =>
                                            obtain ⟨i, p, hi1, hi2, hp0, hp1, hp, rfl, rfl, rfl⟩ := hrel
                                            by_cases hlt : i < F.size
                                            · have HP : Hid (p / 10 = ((b / 10 ^ (i + 1) : Nat) : Int)) := Lib.hid (by rw [hp, Nat.pow_succ, ← Nat.div_div_eq_div_mul]; rfl)
                                              clear hp
                                              go_wp2_with fail
                                              go_roundg (F.size - (i + 1))
                                              case measure => omega
                                              case rel => exact ⟨i + 1, p / 10, by omega, by omega, by omega, by omega, HP.out, by go_num, by go_num, rfl⟩
                                            · have hpe : ((b / 10 ^ B.length : Nat) : Int) = p := by
                                                have h9 : i = B.length := by have := HFS.out; omega
                                                rw [← h9]; exact hp.symm
                                              clear hp
                                              have hp9 : 1 ≤ p := by have := HQ2.out; omega
                                              obtain ⟨T2, hT2⟩ : ∃ T2 : Int, ((min (dval B 0 * (b / 10 ^ B.length)) (two63 + 1) : Nat) : Int) = T2 := ⟨_, rfl⟩
                                              have cT := fun w => times_is (l := B) w (by have := HFS.out; omega) HBD.out hpe hp9 hp1 hT2
                                              rw [← HFE.out] at cT
                                              have h20 : 0 ≤ T2 := by omega
                                              have h29 : T2 ≤ 9223372036854775809 := by rw [← hT2]; unfold two63; omega
                                              obtain ⟨X, hX⟩ : ∃ X : Int, ((min (T1.toNat + T2.toNat) (two63 + 1) : Nat) : Int) = X := ⟨_, rfl⟩
                                              have cP := fun w => plus_is w hT0 hT9 h20 h29 hX
                                              have hX0 : 0 ≤ X := by omega
                                              have hX9 : X ≤ 9223372036854775809 := by rw [← hX]; unfold two63; omega
                                              have HX := Lib.hid hX
                                              have HT2 := Lib.hid hT2
                                              clear hX hT2 hpe
                                              go_wp2_with fail
                                              refine (cT _).mono ?_
                                              rintro e v1 ⟨rfl, rfl⟩
                                              clear cT
                                              go_wp2_with fail
                                              refine (cP _).mono ?_
                                              rintro e v1 ⟨rfl, rfl⟩
                                              clear cP
                                              go_wp2_with fail
                                              go_meet
                                              case rel => exact ⟨sure, X, hX0, hX9, (fun h => ⟨h, by
                                                have h9 := HQ.out
                                                rw [HA.out, ← HS3.out] at h9
                                                have e1 : X.toNat = min (min (dval A 0 * b) (two63 + 1) + min (dval B 0 * (b / 10 ^ B.length)) (two63 + 1)) (two63 + 1) := by
                                                  rw [← HX.out, ← HT1.out, ← HT2.out, Int.toNat_natCast, Int.toNat_natCast, Int.toNat_natCast]
                                                rw [e1]
                                                exact h9⟩), rfl, rfl, rfl⟩
                                        · have hm' : R < (F.size : Int) := by have := HFS.out; omega
                                          clear hm
                                          go_wp2_with fail
                                          go_loopg [18, 19] F.size (fun gk x18 x19 wr => ∃ (i : Nat) (p : Int), i ≤ F.size ∧ F.size - i ≤ gk ∧ 0 ≤ p ∧ p ≤ 3600000000000 ∧ p = ((b / 10 ^ i : Nat) : Int) ∧ x18 = .int .u64 p ∧ x19 = .int .i64 (i : Int) ∧ w = wr)
                                          case atStart => exact ⟨0, Bi, by omega, by omega, by omega, by omega, by rw [Nat.pow_zero, Nat.div_one]; exact HBI.out.symm, rfl, rfl, rfl⟩
                                          case round =>
                                            obtain ⟨i, p, hi1, hi2, hp0, hp1, hp, rfl, rfl, rfl⟩ := hrel
                                            by_cases hlt : i < F.size
                                            · have HP : Hid (p / 10 = ((b / 10 ^ (i + 1) : Nat) : Int)) := Lib.hid (by rw [hp, Nat.pow_succ, ← Nat.div_div_eq_div_mul]; rfl)
                                              clear hp
                                              go_wp2_with fail
                                              go_roundg (F.size - (i + 1))
                                              case measure => omega
                                              case rel => exact ⟨i + 1, p / 10, by omega, by omega, by omega, by omega, HP.out, by go_num, by go_num, rfl⟩
                                            · have hpe : ((b / 10 ^ B.length : Nat) : Int) = p := by
                                                have h9 : i = B.length := by have := HFS.out; omega
                                                rw [← h9]; exact hp.symm
                                              clear hp
                                              by_cases hpp : p = 0
                                              · subst hpp
                                                clear hpe
                                                go_wp2_with fail
                                                go_meet
                                                case rel => exact ⟨false, T1, hT0, hT9, (fun h => by cases h), rfl, rfl, rfl⟩
                                              · skip
                                                have hp9 : 1 ≤ p := by omega
                                                obtain ⟨T2, hT2⟩ : ∃ T2 : Int, ((min (dval B 0 * (b / 10 ^ B.length)) (two63 + 1) : Nat) : Int) = T2 := ⟨_, rfl⟩
                                                have cT := fun w => times_is (l := B) w (by have := HFS.out; omega) HBD.out hpe hp9 hp1 hT2
                                                rw [← HFE.out] at cT
                                                have h20 : 0 ≤ T2 := by omega
                                                have h29 : T2 ≤ 9223372036854775809 := by rw [← hT2]; unfold two63; omega
                                                obtain ⟨X, hX⟩ : ∃ X : Int, ((min (T1.toNat + T2.toNat) (two63 + 1) : Nat) : Int) = X := ⟨_, rfl⟩
                                                have cP := fun w => plus_is w hT0 hT9 h20 h29 hX
                                                have hX0 : 0 ≤ X := by omega
                                                have hX9 : X ≤ 9223372036854775809 := by rw [← hX]; unfold two63; omega
                                                have HX := Lib.hid hX
                                                have HT2 := Lib.hid hT2
                                                clear hX hT2 hpe
                                                go_wp2_with fail
                                                refine (cT _).mono ?_
                                                rintro e v1 ⟨rfl, rfl⟩
                                                clear cT
                                                go_wp2_with fail
                                                refine (cP _).mono ?_
                                                rintro e v1 ⟨rfl, rfl⟩
                                                clear cP
                                                go_wp2_with fail
                                                go_meet
                                                case rel => exact ⟨false, X, hX0, hX9, (fun h => by cases h), rfl, rfl, rfl⟩
                                      · have hq' : (point && !Z) = false := by simpa using hq
                                        have hz : dval B 0 = 0 := by
                                          cases point
                                          · rcases HAF.out with ⟨h9, _⟩ | ⟨_, _, h9, _⟩
                                            · cases h9
                                            · rw [h9]; rfl
                                          · have : Z = true := by simpa using hq'
                                            exact (zeros_val hBd).1 (by rw [HZ.out]; exact this)
                                        have HST := Lib.hid (step_zero HNE.out HAF.out HAB.out HBU.out hz)
                                        rw [hq']
                                        clear hq hq' hz hBd
                                        go_wp2_with fail
                                        go_meet
                                        case rel => exact ⟨sure, T1, hT0, hT9, (fun h => ⟨h, by have h9 := HST.out; rw [HA.out, ← HS3.out] at h9; rw [← HT1.out, Int.toNat_natCast]; exact h9⟩), rfl, rfl, rfl⟩
                                    -- ]]
                                  case rest =>
                                    as_aux_lemma =>
                                      obtain ⟨sure', X, hX0, hX1, hst, rfl, rfl, rfl⟩ := hcut
                                      have HSX := Lib.hid hst
                                      clear hst
                                      go_upto_region 39 with (fail)
                                      obtain ⟨Y, hY⟩ : ∃ Y : Int, ((min (sum.toNat + X.toNat) (two63 + 1) : Nat) : Int) = Y := ⟨_, rfl⟩
                                      have cP := fun w => plus_is w hm1 hm2 hX0 hX1 hY
                                      have hY0 : 0 ≤ Y := by omega
                                      have hY9 : Y ≤ 9223372036854775809 := by rw [← hY]; unfold two63; omega
                                      have hs3l : s3.size < r.size := by
                                        rw [← list_len, ← list_len, HS3.out]
                                        exact s3_len HNE.out HAF.out HBU.out
                                      have HR1N : Hid (R1 t.data.toList s3.data.toList) := Lib.hid (by rw [HS3.out]; exact r1_next HI.out HNE.out HAF.out HAB.out HBU.out)
                                      have HY := Lib.hid hY
                                      clear hY
                                      by_cases hboth : sum = 9223372036854775808 ∧ X = 9223372036854775808
                                      · obtain ⟨q1, q2⟩ := hboth
                                        have e1 : (sum == 9223372036854775808) = true := by rw [beq_iff_eq]; exact q1
                                        have e2 : (X == 9223372036854775808) = true := by rw [beq_iff_eq]; exact q2
                                        clear q1 q2
                                        -- [[
                                        as_aux_lemma =>
                                          go_wp2_with fail
                                          refine (cP _).mono ?_
                                          rintro e v1 ⟨rfl, rfl⟩
                                          clear cP
                                          go_wp2_with fail
                                          go_roundg s3.size
                                          case measure => omega
                                          case rel => exact ⟨s3, Y, false, Nat.le_refl _, by omega, hY0, hY9, ⟨HR1N.out, (fun h => by cases h)⟩, rfl, rfl, rfl, rfl, rfl⟩
                                        -- ]]
                                      · have HR2 : Hid (sure' = true → R2 t.data.toList s3.data.toList Y.toNat) := Lib.hid (by
                                          intro h
                                          obtain ⟨h1, h2⟩ := HSX.out h
                                          have h3 := r2_next (HI.out.2 h1) HNE.out (by unfold two63; omega) (by unfold two63; omega) h2 (by unfold two63; omega)
                                          rw [← HY.out, Int.toNat_natCast]
                                          exact h3)
                                        -- [[
                                        as_aux_lemma =>
                                          by_cases q1 : sum = 9223372036854775808
                                          · have e1 : (sum == 9223372036854775808) = true := by rw [beq_iff_eq]; exact q1
                                            have e2 : (X == 9223372036854775808) = false := by rw [beq_eq_false_iff_ne]; omega
                                            clear q1 hboth
                                            go_wp2_with fail
                                            refine (cP _).mono ?_
                                            rintro e v1 ⟨rfl, rfl⟩
                                            clear cP
                                            go_wp2_with fail
                                            go_roundg s3.size
                                            case measure => omega
                                            case rel => exact ⟨s3, Y, sure', Nat.le_refl _, by omega, hY0, hY9, ⟨HR1N.out, HR2.out⟩, rfl, rfl, rfl, rfl, rfl⟩
                                          · have e1 : (sum == 9223372036854775808) = false := by rw [beq_eq_false_iff_ne]; exact q1
                                            clear q1 hboth
                                            go_wp2_with fail
                                            refine (cP _).mono ?_
                                            rintro e v1 ⟨rfl, rfl⟩
                                            clear cP
                                            go_wp2_with fail
                                            go_roundg s3.size
                                            case measure => omega
                                            case rel => exact ⟨s3, Y, sure', Nat.le_refl _, by omega, hY0, hY9, ⟨HR1N.out, HR2.out⟩, rfl, rfl, rfl, rfl, rfl⟩
                                        -- ]]

end Go.Proofs.YteejjhdfebhagaaDoor
