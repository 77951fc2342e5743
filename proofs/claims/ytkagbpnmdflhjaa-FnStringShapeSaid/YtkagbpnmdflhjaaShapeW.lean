/- The law on the shape of the text, walked: once for durations of at least 1, once for those less than 0, once for 0. -/
import Derived.Test.YtkagbpnmdflhjaaRows
import Derived.WalkKit
import Derived.ProofKit
import Derived.OpenShut
import Derived.Test.YtkagbpnmdflhjaaStrIs
import Derived.Test.YtkagbpnmdflhjaaShapePlain
namespace Go.Proofs.Ytkagbpnmdflhjaa
open Go.ChangeShapes Go.WideShapes Go.ChangeAt Go.RowKit
set_option linter.unusedVariables false

theorem at_byte {l : List UInt8} {i : Nat} {c : UInt8} (h : l[i]? = some c) (hs : i < (ByteArray.mk l.toArray).size) : (ByteArray.mk l.toArray)[i]'hs = c := by
  have hi : i < l.length := by simpa [ByteArray.size] using hs
  rw [List.getElem?_eq_getElem hi] at h
  exact Option.some.inj h

theorem size_mk (l : List UInt8) : (ByteArray.mk l.toArray).size = l.length := by simp [ByteArray.size]

theorem extract_tail (c : UInt8) (l : List UInt8) (n : Nat) (hn : l.length + 1 ≤ n) : (ByteArray.mk (c :: l).toArray).extract 1 n = ByteArray.mk l.toArray := by
  apply ByteArray.ext
  simp
  exact List.take_of_length_le (by omega)

theorem count_take {l : List UInt8} {i : Nat} {c : UInt8} (h : l[i]? = some c) : (l.take (i + 1)).count 46 = (l.take i).count 46 + (if c = 46 then 1 else 0) := by
  have hi : i < l.length := by
    rcases Nat.lt_or_ge i l.length with h1 | h1
    · exact h1
    · rw [List.getElem?_eq_none h1] at h; cases h
  rw [List.getElem?_eq_getElem hi] at h
  rw [List.take_succ_eq_append_getElem hi, List.count_append, Option.some.inj h, List.count_singleton]
  simp

set_option maxRecDepth 100000 in
set_option maxHeartbeats 4000000 in
theorem shape_pos (a0 : Int) (l : List UInt8) (c0 : UInt8) (w : World) (b01 : 0 < a0) (b02 : a0 ≤ 9223372036854775807) (hc1 : 48 < (c0.toNat : Int)) (hc2 : (c0.toNat : Int) ≤ 57) (ne : (l == [48, 115]) = false) (S : Hid (str a0 = l))
    (z1 : 2 ≤ l.length) (z2 : l.length ≤ 24) (HC : Hid (l[0]? = some c0)) (H2 : Hid (l.getLast? = some 115)) (H3 : Hid (shape l)) (H4 : Hid (l.count 46 ≤ 1)) :
    Calls Try.prog 9 #[.int .i64 a0] w fun e w' => e = .returned (.bool true) ∧ Grown w w' := by
  have he : l.isEmpty = false := by
    cases l with
    | nil => simp at z1
    | cons c t => rfl
  have s0 : 0 < (ByteArray.mk l.toArray).size := by rw [size_mk]; omega
  have sL : l.length - 1 < (ByteArray.mk l.toArray).size := by rw [size_mk]; omega
  have hi0 := at_byte HC.out s0
  have hiL := at_byte (c := 115) (by rw [← List.getLast?_eq_getElem?]; exact H2.out) sL
  have f1 : ((c0.toNat : Int) == 45) = false := by rw [beq_eq_false_iff_ne]; omega
  have f2 : decide (a0 < 0) = false := decide_eq_false (by omega)
  have f3 : ((c0.toNat : Int) == 48) = false := by rw [beq_eq_false_iff_ne]; omega
  have f4 : (a0 == 0) = false := by rw [beq_eq_false_iff_ne]; omega
  go_enter Try.func9, Try.ntmps9
  go_wp2_with fail
  refine (string_is _ (by omega) (by omega) S.out).mono ?_
  rintro e w' ⟨rfl, rfl⟩
  go_wp2
  go_loop [4, 5, 6] (fun x4 x5 x6 => ∃ (i k : Nat), i ≤ l.length ∧ (l.take i).count 46 = k ∧ k ≤ 1 ∧ x4 = .int .i64 (k : Int) ∧ x5 = .int .i64 (i : Int)) (fun _ x5 _ => l.length - (intOf x5).toNat)
  case atStart => exact ⟨0, 0, Nat.zero_le _, by simp, by decide, rfl, rfl⟩
  case round =>
    obtain ⟨i, k, hi, hk, hk1, rfl, rfl⟩ := hrel
    clear hi0 hiL s0 sL
    by_cases hlt : i < l.length
    · obtain ⟨c, hc⟩ : ∃ c, l[i]? = some c := ⟨_, List.getElem?_eq_getElem hlt⟩
      have sI : i < (ByteArray.mk l.toArray).size := by rw [size_mk]; exact hlt
      have hci := at_byte hc sI
      have hct := count_take hc
      have hle : (l.take (i + 1)).count 46 ≤ 1 := Nat.le_trans (List.Sublist.count_le 46 (List.take_sublist _ _)) H4.out
      rw [hk] at hct
      have hsh := H3.out i hlt
      rw [List.getElem?_eq_getElem hlt] at hc
      rw [Option.some.inj hc] at hsh
      have CT := Lib.hid hct
      have LE := Lib.hid hle
      clear hct hle hk hc
      rcases hsh with hok | ⟨rfl, hn⟩ | ⟨rfl, j, rfl, hj⟩
      · by_cases h46 : c = 46
        · subst h46
          clear hok
          go_wp2
          go_round
          case rel => exact ⟨i + 1, k + 1, by omega, by rw [CT.out, if_pos rfl], by have := CT.out; have := LE.out; rw [if_pos rfl] at *; omega, by go_num, by go_num⟩
          case measure => simp [intOf]; omega
        · by_cases hdg : isDig c = true
          · have hdg' : 48 ≤ (c.toNat : Int) ∧ (c.toNat : Int) ≤ 57 := by unfold isDig at hdg; simp at hdg; omega
            obtain ⟨d1, d2⟩ := hdg'
            have d3 : ((c.toNat : Int) == 46) = false := by rw [beq_eq_false_iff_ne]; omega
            have CT' := Lib.hid (show (l.take (i + 1)).count 46 = k by rw [CT.out, if_neg h46]; rfl)
            clear hok hdg CT h46
            go_wp2
            go_round
            case rel => exact ⟨i + 1, k, by omega, CT'.out, by omega, rfl, by go_num⟩
            case measure => simp [intOf]; omega
          · have CT' := Lib.hid (show (l.take (i + 1)).count 46 = k by rw [CT.out, if_neg h46]; rfl)
            have hlet : c = 104 ∨ c = 109 ∨ c = 115 ∨ c = 110 := by
              unfold okByte at hok
              simp at hok
              rcases hok with (((( h | h) | h) | h) | h) | h
              · exact absurd h h46
              · exact absurd h hdg
              · exact Or.inl h
              · exact Or.inr (Or.inl h)
              · exact Or.inr (Or.inr (Or.inl h))
              · exact Or.inr (Or.inr (Or.inr h))
            clear hok hdg CT h46
            rcases hlet with rfl | rfl | rfl | rfl
            all_goals
              go_wp2
              go_round
              case rel => exact ⟨i + 1, k, by omega, CT'.out, by omega, rfl, by go_num⟩
              case measure => simp [intOf]; omega
      · have hlt1 : i + 1 < l.length := by
          rcases Nat.lt_or_ge (i + 1) l.length with h1 | h1
          · exact h1
          · rw [List.getElem?_eq_none h1] at hn; cases hn
        have sN : i + 1 < (ByteArray.mk l.toArray).size := by rw [size_mk]; exact hlt1
        have hcn := at_byte hn sN
        have hlt2 : (i : Int) + 1 < (l.length : Int) := by omega
        have CT' := Lib.hid (show (l.take (i + 1)).count 46 = k by rw [CT.out]; rfl)
        clear CT hn
        go_wp2
        go_round
        case rel => exact ⟨i + 1, k, by omega, CT'.out, by omega, rfl, by go_num⟩
        case measure => simp [intOf]; omega
      · have sN : j < (ByteArray.mk l.toArray).size := by rw [size_mk]; omega
        have hcn := at_byte hj sN
        have CT' := Lib.hid (show (l.take (j + 1 + 1)).count 46 = k by rw [CT.out]; rfl)
        clear CT hj
        go_wp2
        go_round
        case rel => exact ⟨j + 1 + 1, k, by omega, CT'.out, by omega, rfl, by go_num⟩
        case measure => simp [intOf]; omega
    · have hil : i = l.length := by omega
      subst hil
      clear hlt
      have z3 : (l.length : Int) ≤ 24 := by omega
      go_wp2
      go_ret
      exact ⟨ret_bool (by first | rfl | (simp; omega)), grown_bw (Grown.refl _) _ _ _⟩

set_option maxRecDepth 100000 in
set_option maxHeartbeats 4000000 in
theorem shape_neg (a0 : Int) (l : List UInt8) (c0 : UInt8) (w : World) (b01 : 0 < a0) (b02 : a0 ≤ 9223372036854775808) (hc1 : 48 < (c0.toNat : Int)) (hc2 : (c0.toNat : Int) ≤ 57) (ne : (l == [48, 115]) = false) (S : Hid (str (-a0) = 45 :: l))
    (z1 : 2 ≤ l.length) (z2 : l.length ≤ 24) (HC : Hid (l[0]? = some c0)) (H2 : Hid (l.getLast? = some 115)) (H3 : Hid (shape l)) (H4 : Hid (l.count 46 ≤ 1)) :
    Calls Try.prog 9 #[.int .i64 (-a0)] w fun e w' => e = .returned (.bool true) ∧ Grown w w' := by
  have he : l.isEmpty = false := by
    cases l with
    | nil => simp at z1
    | cons c t => rfl
  have s0 : 0 < (ByteArray.mk l.toArray).size := by rw [size_mk]; omega
  have sL : l.length - 1 < (ByteArray.mk l.toArray).size := by rw [size_mk]; omega
  have hi0 := at_byte HC.out s0
  have hiL := at_byte (c := 115) (by rw [← List.getLast?_eq_getElem?]; exact H2.out) sL
  have f2 : decide (-a0 < 0) = true := decide_eq_true (by omega)
  have f3 : ((c0.toNat : Int) == 48) = false := by rw [beq_eq_false_iff_ne]; omega
  have f4 : (-a0 == 0) = false := by rw [beq_eq_false_iff_ne]; omega
  have hex := extract_tail 45 l (l.length + 1) (Nat.le_refl _)
  go_enter Try.func9, Try.ntmps9
  go_wp2_with fail
  refine (string_is _ (by omega) (by omega) S.out).mono ?_
  rintro e w' ⟨rfl, rfl⟩
  go_wp2
  go_loop [4, 5, 6] (fun x4 x5 x6 => ∃ (i k : Nat), i ≤ l.length ∧ (l.take i).count 46 = k ∧ k ≤ 1 ∧ x4 = .int .i64 (k : Int) ∧ x5 = .int .i64 (i : Int)) (fun _ x5 _ => l.length - (intOf x5).toNat)
  case atStart => exact ⟨0, 0, Nat.zero_le _, by simp, by decide, rfl, rfl⟩
  case round =>
    obtain ⟨i, k, hi, hk, hk1, rfl, rfl⟩ := hrel
    clear hi0 hiL s0 sL
    by_cases hlt : i < l.length
    · obtain ⟨c, hc⟩ : ∃ c, l[i]? = some c := ⟨_, List.getElem?_eq_getElem hlt⟩
      have sI : i < (ByteArray.mk l.toArray).size := by rw [size_mk]; exact hlt
      have hci := at_byte hc sI
      have hct := count_take hc
      have hle : (l.take (i + 1)).count 46 ≤ 1 := Nat.le_trans (List.Sublist.count_le 46 (List.take_sublist _ _)) H4.out
      rw [hk] at hct
      have hsh := H3.out i hlt
      rw [List.getElem?_eq_getElem hlt] at hc
      rw [Option.some.inj hc] at hsh
      have CT := Lib.hid hct
      have LE := Lib.hid hle
      clear hct hle hk hc
      rcases hsh with hok | ⟨rfl, hn⟩ | ⟨rfl, j, rfl, hj⟩
      · by_cases h46 : c = 46
        · subst h46
          clear hok
          go_wp2
          go_round
          case rel => exact ⟨i + 1, k + 1, by omega, by rw [CT.out, if_pos rfl], by have := CT.out; have := LE.out; rw [if_pos rfl] at *; omega, by go_num, by go_num⟩
          case measure => simp [intOf]; omega
        · by_cases hdg : isDig c = true
          · have hdg' : 48 ≤ (c.toNat : Int) ∧ (c.toNat : Int) ≤ 57 := by unfold isDig at hdg; simp at hdg; omega
            obtain ⟨d1, d2⟩ := hdg'
            have d3 : ((c.toNat : Int) == 46) = false := by rw [beq_eq_false_iff_ne]; omega
            have CT' := Lib.hid (show (l.take (i + 1)).count 46 = k by rw [CT.out, if_neg h46]; rfl)
            clear hok hdg CT h46
            go_wp2
            go_round
            case rel => exact ⟨i + 1, k, by omega, CT'.out, by omega, rfl, by go_num⟩
            case measure => simp [intOf]; omega
          · have CT' := Lib.hid (show (l.take (i + 1)).count 46 = k by rw [CT.out, if_neg h46]; rfl)
            have hlet : c = 104 ∨ c = 109 ∨ c = 115 ∨ c = 110 := by
              unfold okByte at hok
              simp at hok
              rcases hok with (((( h | h) | h) | h) | h) | h
              · exact absurd h h46
              · exact absurd h hdg
              · exact Or.inl h
              · exact Or.inr (Or.inl h)
              · exact Or.inr (Or.inr (Or.inl h))
              · exact Or.inr (Or.inr (Or.inr h))
            clear hok hdg CT h46
            rcases hlet with rfl | rfl | rfl | rfl
            all_goals
              go_wp2
              go_round
              case rel => exact ⟨i + 1, k, by omega, CT'.out, by omega, rfl, by go_num⟩
              case measure => simp [intOf]; omega
      · have hlt1 : i + 1 < l.length := by
          rcases Nat.lt_or_ge (i + 1) l.length with h1 | h1
          · exact h1
          · rw [List.getElem?_eq_none h1] at hn; cases hn
        have sN : i + 1 < (ByteArray.mk l.toArray).size := by rw [size_mk]; exact hlt1
        have hcn := at_byte hn sN
        have hlt2 : (i : Int) + 1 < (l.length : Int) := by omega
        have CT' := Lib.hid (show (l.take (i + 1)).count 46 = k by rw [CT.out]; rfl)
        clear CT hn
        go_wp2
        go_round
        case rel => exact ⟨i + 1, k, by omega, CT'.out, by omega, rfl, by go_num⟩
        case measure => simp [intOf]; omega
      · have sN : j < (ByteArray.mk l.toArray).size := by rw [size_mk]; omega
        have hcn := at_byte hj sN
        have CT' := Lib.hid (show (l.take (j + 1 + 1)).count 46 = k by rw [CT.out]; rfl)
        clear CT hj
        go_wp2
        go_round
        case rel => exact ⟨j + 1 + 1, k, by omega, CT'.out, by omega, rfl, by go_num⟩
        case measure => simp [intOf]; omega
    · have hil : i = l.length := by omega
      subst hil
      clear hlt
      have z3 : (l.length : Int) ≤ 24 := by omega
      go_wp2
      go_ret
      exact ⟨ret_bool (by first | rfl | (simp; omega)), grown_bw (Grown.refl _) _ _ _⟩

set_option maxRecDepth 100000 in
theorem shape_zero (w : World) :
    Calls Try.prog 9 #[.int .i64 0] w fun e w' => e = .returned (.bool true) ∧ Grown w w' := by
  have S := Lib.hid str_zero
  go_enter Try.func9, Try.ntmps9
  go_wp2_with fail
  refine (string_is _ (by omega) (by omega) S.out).mono ?_
  rintro e w' ⟨rfl, rfl⟩
  go_wp2
  refine wp_loop_rounds 3 ?_
  repeat (any_goals (rw [rounds_succ]; go_wp2))
  go_ret
  exact ⟨ret_bool (by first | rfl | (simp; done)), grown_bw (Grown.refl _) _ _ _⟩

theorem dig_bounds {c : UInt8} (h : isDig c = true) (h2 : c ≠ 48) : 48 < (c.toNat : Int) ∧ (c.toNat : Int) ≤ 57 := by
  unfold isDig at h
  simp at h
  have : c.toNat ≠ 48 := by
    intro e
    apply h2
    exact UInt8.toNat_inj.1 (by rw [e]; rfl)
  omega

theorem shape_any {d : Int} (w : World) (h1 : -9223372036854775808 ≤ d) (h2 : d ≤ 9223372036854775807) :
    Calls Try.prog 9 #[.int .i64 d] w fun e w' => e = .returned (.bool true) ∧ Grown w w' := by
  by_cases hz : d = 0
  · subst hz; exact shape_zero w
  have hlen := strU_len (natAbs_le h1 h2)
  have hsh := strU_shape d.natAbs
  have hct := strU_count d.natAbs
  have hla := strU_last d.natAbs
  obtain ⟨c, t, e, hd, h48⟩ := strU_first (n := d.natAbs) (by omega)
  obtain ⟨q1, q2⟩ := dig_bounds hd h48
  have hne : (strU d.natAbs == [48, 115]) = false := by
    rw [beq_eq_false_iff_ne, e]
    intro h
    exact h48 (List.cons.inj h).1
  have h0 : (strU d.natAbs)[0]? = some c := by rw [e]; rfl
  by_cases hneg : d < 0
  · have es : str d = 45 :: strU d.natAbs := by unfold str; rw [if_pos hneg]
    have ed : d = -((d.natAbs : Nat) : Int) := by omega
    have := shape_neg (d.natAbs : Int) (strU d.natAbs) c w (by omega) (by omega) q1 q2 hne (by rw [← ed]; exact es) hlen.1 hlen.2 h0 hla hsh hct
    rw [← ed] at this
    exact this
  · have es : str d = strU d.natAbs := by unfold str; rw [if_neg hneg]
    exact shape_pos d (strU d.natAbs) c w (by omega) h2 q1 q2 hne es hlen.1 hlen.2 h0 hla hsh hct

end Go.Proofs.Ytkagbpnmdflhjaa
