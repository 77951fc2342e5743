/- Contracts of the reference's small functions: run (the digits at the beginning), unit, times and plus (capped at 2^63 + 1). -/
import Derived.Test.YteejjhdfebhagaaDoorSurePlain
import Derived.Test.YteejjhdfebhagaaDoorLawsW
import Derived.Deep.LoopGhost
import Derived.Deep.CutRange
import Derived.Deep.DeepCutAuto
import Derived.Deep.CutBlock
import Derived.Outline
namespace Go.Proofs.YteejjhdfebhagaaDoor
open Go.ChangeShapes Go.WideShapes Go.ChangeAt Go.RowKit
set_option linter.unusedVariables false

theorem twd_yes {c : UInt8} {t : List UInt8} (h : isDig c = true) : ((c :: t).takeWhile isDig).length = 1 + (t.takeWhile isDig).length := by
  rw [List.takeWhile_cons, if_pos h, List.length_cons]; omega
theorem twd_no {c : UInt8} {t : List UInt8} (h : isDig c = false) : ((c :: t).takeWhile isDig).length = 0 := by
  rw [List.takeWhile_cons, h]; rfl
theorem take_twd (l : List UInt8) : l.take (l.takeWhile isDig).length = l.takeWhile isDig := by
  have h := take_app (l.takeWhile isDig) (l.dropWhile isDig)
  rwa [tw_dw] at h
theorem drop_twd (l : List UInt8) : l.drop (l.takeWhile isDig).length = l.dropWhile isDig := by
  have h := drop_app (l.takeWhile isDig) (l.dropWhile isDig)
  rwa [tw_dw] at h
theorem isDig_of {c : UInt8} (h : 48 ≤ c.toNat ∧ c.toNat ≤ 57) : isDig c = true := by unfold isDig; simp; exact h
theorem isDig_no {c : UInt8} (h : ¬ (48 ≤ c.toNat ∧ c.toNat ≤ 57)) : isDig c = false := by unfold isDig; simp; omega

set_option maxHeartbeats 4000000 in
theorem run_is {s : ByteArray} {x : List UInt8} (w : World) (hs : s.size ≤ 2000000) (hx : s.data.toList.takeWhile isDig = x) :
    Calls Tryd.prog 31 #[.string s] w fun e w' => e = .returned (.string ⟨x.toArray⟩) ∧ w = w' := by
  have HX := Lib.hid hx
  clear hx
  go_enter Tryd.func31, Tryd.ntmps31
  go_wp2_with fail
  go_loopg [3] s.size (fun gk x3 wr => ∃ i : Nat, i ≤ s.size ∧ s.size - i ≤ gk ∧ (s.data.toList.takeWhile isDig).length = i + ((s.data.toList.drop i).takeWhile isDig).length ∧ x3 = .int .i64 (i : Int) ∧ w = wr)
  case atStart => exact ⟨0, by omega, by omega, by simp, rfl, rfl⟩
  case round =>
    obtain ⟨i, hi1, hi2, hl, rfl, rfl⟩ := hrel
    have HT := Lib.hid hl
    clear hl
    by_cases hlt : i < s.size
    · have hat := drop_at s hlt
      obtain ⟨c, hcc⟩ : ∃ c, s[i] = c := ⟨_, rfl⟩
      have HA : Hid (s.data.toList.drop i = c :: s.data.toList.drop (i + 1)) := Lib.hid (by rw [hat, hcc])
      clear hat
      have hcl : c.toNat < 256 := c.toNat_lt
      by_cases hd : 48 ≤ c.toNat ∧ c.toNat ≤ 57
      · have HD := Lib.hid (isDig_of hd)
        obtain ⟨d1, d2⟩ := hd
        go_wp2_with fail
        go_roundg (s.size - (i + 1))
        case measure => omega
        case rel => exact ⟨i + 1, by omega, by omega, by rw [HT.out, HA.out, twd_yes HD.out]; omega, by go_num, rfl⟩
      · have HD := Lib.hid (isDig_no hd)
        have HE : Hid (s.extract 0 i = bs x) := Lib.hid (by rw [bs_take, ← HX.out, ← take_twd, HT.out, HA.out, twd_no HD.out, Nat.add_zero])
        rcases Nat.lt_or_ge c.toNat 48 with h9 | h9
        · go_wp2_with fail
          go_ret
          exact ⟨congrArg (fun z => Ending.returned (.string z)) HE.out, rfl⟩
        · have h57 : 57 < c.toNat := by omega
          go_wp2_with fail
          go_ret
          exact ⟨congrArg (fun z => Ending.returned (.string z)) HE.out, rfl⟩
    · have HE : Hid (s.extract 0 i = bs x) := Lib.hid (by rw [bs_take, ← HX.out, ← take_twd, HT.out, List.drop_of_length_le (by rw [list_len]; omega)]; rfl)
      go_wp2_with fail
      go_ret
      exact ⟨congrArg (fun z => Ending.returned (.string z)) HE.out, rfl⟩

/-- what unit returns -/
def unitRes (u : List UInt8) : Value := match unitBy u with
  | some b => .tuple #[.int .u64 (b : Int), .int .i64 (roomOf b : Int), .int .i64 (u.length : Int)]
  | none => .tuple #[.int .u64 0, .int .i64 0, .int .i64 0]

theorem ne_beq {u v : List UInt8} (h : u ≠ v) : (u == v) = false := by rw [beq_eq_false_iff_ne]; exact h

def UnitPost (u : List UInt8) (w : World) (e : Ending) (w' : World) : Prop := e = .returned (unitRes u) ∧ w = w'

set_option maxHeartbeats 4000000 in
theorem unit_is {s : ByteArray} {u : List UInt8} (w : World) (hs : s.size ≤ 2000000) (hu : s.data.toList.takeWhile inUnit = u) :
    Calls Tryd.prog 32 #[.string s] w (UnitPost u w) := by
  have HX := Lib.hid hu
  clear hu
  go_enter Tryd.func32, Tryd.ntmps32
  go_upto_block 0 with (fail)
  go_cut [5] (fun x5 wx => x5 = .int .i64 (u.length : Int) ∧ w = wx)
  case first =>
    go_wp2_with fail
    go_loopg [5] s.size (fun gk x5 wr => ∃ i : Nat, i ≤ s.size ∧ s.size - i ≤ gk ∧ u.length = i + ((s.data.toList.drop i).takeWhile inUnit).length ∧ x5 = .int .i64 (i : Int) ∧ w = wr)
    case atStart => exact ⟨0, by omega, by omega, by rw [← HX.out]; simp, rfl, rfl⟩
    case round =>
      obtain ⟨i, hi1, hi2, hl, rfl, rfl⟩ := hrel
      have HT := Lib.hid hl
      clear hl
      by_cases hlt : i < s.size
      · have hat := drop_at s hlt
        obtain ⟨c, hcc⟩ : ∃ c, s[i] = c := ⟨_, rfl⟩
        have HA : Hid (s.data.toList.drop i = c :: s.data.toList.drop (i + 1)) := Lib.hid (by rw [hat, hcc])
        clear hat
        have hcl : c.toNat < 256 := c.toNat_lt
        by_cases h46 : c.toNat = 46
        · have HD := Lib.hid (inUnit_46 h46)
          have e1 : ((c.toNat : Int) != 46) = false := by rw [bne_eq_false_iff_eq]; omega
          have e2 : ((c.toNat : Int) == 46) = true := by rw [beq_iff_eq]; omega
          clear h46
          go_wp2_with fail
          go_meet
          case rel => exact ⟨by rw [HT.out, HA.out, tw_no HD.out]; rfl, rfl⟩
        · have e1 : ((c.toNat : Int) != 46) = true := by rw [bne_iff_ne]; omega
          have e2 : ((c.toNat : Int) == 46) = false := by rw [beq_eq_false_iff_ne]; omega
          by_cases hd : 48 ≤ c.toNat ∧ c.toNat ≤ 57
          · have HD := Lib.hid (inUnit_dig hd.1 hd.2)
            obtain ⟨d1, d2⟩ := hd
            clear h46
            go_wp2_with fail
            go_meet
            case rel => exact ⟨by rw [HT.out, HA.out, tw_no HD.out]; rfl, rfl⟩
          · have HD := Lib.hid (inUnit_yes h46 hd)
            rcases Nat.lt_or_ge c.toNat 48 with h9 | h9
            · clear h46
              go_wp2_with fail
              go_roundg (s.size - (i + 1))
              case measure => omega
              case rel => exact ⟨i + 1, by omega, by omega, by rw [HT.out, HA.out, tw_yes HD.out]; omega, by go_num, rfl⟩
            · have h57 : 57 < c.toNat := by omega
              clear h46
              go_wp2_with fail
              go_roundg (s.size - (i + 1))
              case measure => omega
              case rel => exact ⟨i + 1, by omega, by omega, by rw [HT.out, HA.out, tw_yes HD.out]; omega, by go_num, rfl⟩
      · go_wp2_with fail
        go_meet
        case rel => exact ⟨by rw [HT.out, List.drop_of_length_le (by rw [list_len]; omega)]; rfl, rfl⟩
  case rest =>
    obtain ⟨rfl, rfl⟩ := hcut
    have hul : u.length ≤ s.size := by rw [← HX.out, ← list_len]; exact (List.takeWhile_sublist _).length_le
    obtain ⟨U, hU⟩ : ∃ U, s.extract 0 u.length = U := ⟨_, rfl⟩
    have hUl : U.toList = u := by rw [tl, ← hU, bs_take, bs_list, ← HX.out, take_tw]
    obtain ⟨n, hn⟩ : ∃ n, u.length = n := ⟨_, rfl⟩
    have HN0 := Lib.hid hn
    rw [hn] at hul hU ⊢
    clear HX hn
    by_cases h0 : u = [110, 115]
    · subst h0
      go_wp2_with fail
      go_ret3
      obtain rfl := HN0.out
      exact ⟨rfl, rfl⟩
    by_cases h1 : u = [117, 115]
    · subst h1
      go_wp2_with fail
      go_ret3
      obtain rfl := HN0.out
      exact ⟨rfl, rfl⟩
    by_cases h2 : u = [194, 181, 115]
    · subst h2
      go_wp2_with fail
      go_ret3
      obtain rfl := HN0.out
      exact ⟨rfl, rfl⟩
    by_cases h3 : u = [206, 188, 115]
    · subst h3
      go_wp2_with fail
      go_ret3
      obtain rfl := HN0.out
      exact ⟨rfl, rfl⟩
    by_cases h4 : u = [109, 115]
    · subst h4
      go_wp2_with fail
      go_ret3
      obtain rfl := HN0.out
      exact ⟨rfl, rfl⟩
    by_cases h5 : u = [115]
    · subst h5
      go_wp2_with fail
      go_ret3
      obtain rfl := HN0.out
      exact ⟨rfl, rfl⟩
    by_cases h6 : u = [109]
    · subst h6
      go_wp2_with fail
      go_ret3
      obtain rfl := HN0.out
      exact ⟨rfl, rfl⟩
    by_cases h7 : u = [104]
    · subst h7
      go_wp2_with fail
      go_ret3
      obtain rfl := HN0.out
      exact ⟨rfl, rfl⟩
    have k0 := ne_beq h0
    have k1 := ne_beq h1
    have k2 := ne_beq h2
    have k3 := ne_beq h3
    have k4 := ne_beq h4
    have k5 := ne_beq h5
    have k6 := ne_beq h6
    have k7 := ne_beq h7
    have HN : Hid (unitRes u = .tuple #[.int .u64 0, .int .i64 0, .int .i64 0]) := Lib.hid (by
      have hn : unitBy u = none := by
        unfold unitBy
        rw [if_neg h0, if_neg h1, if_neg h2, if_neg h3, if_neg h4, if_neg h5, if_neg h6, if_neg h7]
      unfold unitRes
      rw [hn])
    clear h0 h1 h2 h3 h4 h5 h6 h7
    go_wp2_with fail
    go_ret3
    exact ⟨by rw [HN.out]; rfl, rfl⟩

theorem dval_take {l : List UInt8} {i : Nat} {c : UInt8} (h : l.drop i = c :: l.drop (i + 1)) : dval (l.take (i + 1)) 0 = dval (l.take i) 0 * 10 + (c.toNat - 48) ∧ dval (l.take i) 0 * 10 ≤ dval l 0 := by
  have h1 : l.take (i + 1) = l.take i ++ [c] := by
    have e := List.take_append_drop i l
    have h2 : l.take (i + 1) = (l.take i ++ l.drop i).take (i + 1) := by rw [e]
    have hi : i < l.length := by
      rcases Nat.lt_or_ge i l.length with h9 | h9
      · exact h9
      · rw [List.drop_of_length_le h9] at h; cases h
    have hl : (l.take i).length = i := by rw [List.length_take]; omega
    rw [h2, h, List.take_append, hl, List.take_of_length_le (by omega), show i + 1 - i = 1 by omega]
    rfl
  have h3 : dval l 0 = dval (l.drop i) (dval (l.take i) 0) := by
    rw [← dval_append, List.take_append_drop]
  constructor
  · rw [h1, dval_append]; rfl
  · rw [h3, h, dval_cons]
    have := dval_ge (l.drop (i + 1)) (dval (l.take i) 0 * 10 + (c.toNat - 48))
    omega

set_option maxHeartbeats 4000000 in
theorem times_is {l : List UInt8} {b : Nat} {B T : Int} (w : World) (hl : l.length ≤ 2000000) (hd : digits l) (hB : (b : Int) = B) (hB1 : 1 ≤ B) (hB2 : B ≤ 3600000000000) (hT : ((min (dval l 0 * b) (two63 + 1) : Nat) : Int) = T) :
    Calls Tryd.prog 33 #[.string ⟨l.toArray⟩, .int .u64 B] w fun e w' => e = .returned (.int .u64 T) ∧ w = w' := by
  have HT := Lib.hid hT
  have HD := Lib.hid hd
  have HB := Lib.hid hB
  obtain ⟨s, hs⟩ : ∃ s : ByteArray, s = ⟨l.toArray⟩ := ⟨_, rfl⟩
  have HS : Hid (s.data.toList = l) := Lib.hid (by rw [hs])
  have hsz : s.size ≤ 2000000 := by rw [hs]; exact hl
  rw [← hs]
  clear hT hd hB hs
  go_enter Tryd.func33, Tryd.ntmps33
  go_wp2_with fail
  go_loopg [5, 6, 7] s.size (fun gk x5 x6 x7 wr => ∃ (i : Nat) (n : Int), i ≤ s.size ∧ s.size - i ≤ gk ∧ 0 ≤ n ∧ n ≤ 9223372036854775809 ∧ n = ((dval (l.take i) 0 : Nat) : Int) ∧ x5 = .int .u64 n ∧ x6 = .int .i64 (i : Int) ∧ w = wr)
  case atStart => exact ⟨0, 0, by omega, by omega, by omega, by omega, by simp [dval_nil], rfl, rfl, rfl⟩
  case round =>
    obtain ⟨i, n, hi1, hi2, hn0, hn1, hn, rfl, rfl, rfl⟩ := hrel
    have HN := Lib.hid hn
    clear hn
    by_cases hlt : i < s.size
    · have hat := drop_at s hlt
      obtain ⟨c, hcc⟩ : ∃ c, s[i] = c := ⟨_, rfl⟩
      rw [hcc, HS.out] at hat
      have hcd : isDig c = true := by
        apply HD.out
        have : c ∈ l.drop i := by rw [hat]; simp
        exact List.mem_of_mem_drop this
      obtain ⟨hv1, hv2⟩ := dval_take hat
      have hc1 : 48 ≤ c.toNat := by unfold isDig at hcd; simp at hcd; omega
      have hc2 : c.toNat ≤ 57 := by unfold isDig at hcd; simp at hcd; omega
      by_cases hbig : n ≤ 922337203685477580
      · have HV : Hid (10 * n + ((c.toNat : Int) - 48) = ((dval (l.take (i + 1)) 0 : Nat) : Int)) := Lib.hid (by rw [hv1, HN.out]; omega)
        clear hat hcd hv1 hv2
        go_wp2_with fail
        go_roundg (s.size - (i + 1))
        case measure => omega
        case rel => exact ⟨i + 1, 10 * n + ((c.toNat : Int) - 48), by omega, by omega, by omega, by omega, HV.out, by go_num, by go_num, rfl⟩
      · have HV : Hid (T = 9223372036854775809) := Lib.hid (by
          rw [← HT.out]
          have hb1 : 1 ≤ b := by have := HB.out; omega
          have h9 : dval l 0 ≤ dval l 0 * b := Nat.le_mul_of_pos_right _ hb1
          have h8 := HN.out
          rw [Nat.min_eq_right (by unfold two63; omega)]
          rfl)
        clear hat hcd hv1 hv2
        go_wp2_with fail
        go_ret
        exact ⟨congrArg (fun z => Ending.returned (.int .u64 z)) HV.out.symm, rfl⟩
    · have hnl : n = ((dval l 0 : Nat) : Int) := by
        rw [HN.out, List.take_of_length_le (by have := HS.out; rw [← this, list_len]; omega)]
      have hb0 : 0 < b := by have := HB.out; omega
      have e9 : ((9223372036854775808 / b : Nat) : Int) = 9223372036854775808 / B := by rw [← HB.out]; simp
      by_cases hov : two63 / b < dval l 0
      · have hov' : decide (9223372036854775808 / B < n) = true := by
          rw [decide_eq_true_iff, ← e9]
          unfold two63 at hov
          omega
        have HV : Hid (T = 9223372036854775809) := Lib.hid (by
          rw [← HT.out]
          have := (Nat.div_lt_iff_lt_mul hb0).1 hov
          rw [Nat.min_eq_right (by omega)]
          rfl)
        clear hnl e9 hov
        go_wp2_with fail
        go_ret
        exact ⟨congrArg (fun z => Ending.returned (.int .u64 z)) HV.out.symm, rfl⟩
      · have hov' : decide (9223372036854775808 / B < n) = false := by
          rw [decide_eq_false_iff_not, ← e9]
          unfold two63 at hov
          omega
        have hvb := over_no hb0 hov
        obtain ⟨P, hP⟩ : ∃ P : Int, n * B = P := ⟨_, rfl⟩
        have hPn : ((dval l 0 * b : Nat) : Int) = P := by rw [← hP, ← HB.out, hnl, Int.natCast_mul]
        have hP0 : 0 ≤ P := by omega
        have hP1 : P ≤ 9223372036854775808 := by unfold two63 at hvb; omega
        have HV : Hid (T = P) := Lib.hid (by rw [← HT.out, Nat.min_eq_left (by omega)]; exact hPn)
        clear hnl e9 hov hvb hPn
        go_wp2_with fail
        go_ret
        exact ⟨congrArg (fun z => Ending.returned (.int .u64 z)) HV.out.symm, rfl⟩

set_option maxHeartbeats 4000000 in
theorem plus_is {a b T : Int} (w : World) (h0 : 0 ≤ a) (h1 : a ≤ 9223372036854775809) (h2 : 0 ≤ b) (h3 : b ≤ 9223372036854775809) (hT : ((min (a.toNat + b.toNat) (two63 + 1) : Nat) : Int) = T) :
    Calls Tryd.prog 34 #[.int .u64 a, .int .u64 b] w fun e w' => e = .returned (.int .u64 T) ∧ w = w' := by
  by_cases ha : 9223372036854775808 < a
  · have HT : Hid (T = 9223372036854775809) := Lib.hid (by rw [← hT]; unfold two63; omega)
    clear hT
    go_enter Tryd.func34, Tryd.ntmps34
    go_wp2_with fail
    go_ret
    exact ⟨congrArg (fun z => Ending.returned (.int .u64 z)) HT.out.symm, rfl⟩
  by_cases hb : 9223372036854775808 < b
  · have HT : Hid (T = 9223372036854775809) := Lib.hid (by rw [← hT]; unfold two63; omega)
    clear hT
    have ha' : a ≤ 9223372036854775808 := by omega
    go_enter Tryd.func34, Tryd.ntmps34
    go_wp2_with fail
    go_ret
    exact ⟨congrArg (fun z => Ending.returned (.int .u64 z)) HT.out.symm, rfl⟩
  have ha' : a ≤ 9223372036854775808 := by omega
  have hb' : b ≤ 9223372036854775808 := by omega
  by_cases hs : 9223372036854775808 - b < a
  · have HT : Hid (T = 9223372036854775809) := Lib.hid (by rw [← hT]; unfold two63; omega)
    clear hT ha hb
    go_enter Tryd.func34, Tryd.ntmps34
    go_wp2_with fail
    go_ret
    exact ⟨congrArg (fun z => Ending.returned (.int .u64 z)) HT.out.symm, rfl⟩
  · have HT : Hid (T = a + b) := Lib.hid (by rw [← hT]; unfold two63; omega)
    have hs' : a ≤ 9223372036854775808 - b := by omega
    clear hT ha hb
    go_enter Tryd.func34, Tryd.ntmps34
    go_wp2_with fail
    go_ret
    exact ⟨congrArg (fun z => Ending.returned (.int .u64 z)) HT.out.symm, rfl⟩

end Go.Proofs.YteejjhdfebhagaaDoor
