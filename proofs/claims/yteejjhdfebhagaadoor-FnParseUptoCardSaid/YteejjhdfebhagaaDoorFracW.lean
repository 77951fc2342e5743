/- Contract of time.leadingFraction: what the plain lfrac of XParsePlain reads; the scale as the word sc k. -/
import Derived.Test.YteejjhdfebhagaaDoorLeadW
import Derived.WalkLawsBesides
import Derived.Test.YteejjhdfebhagaaDoorFl
namespace Go.Proofs.YteejjhdfebhagaaDoor
open Go.ChangeShapes Go.WideShapes Go.ChangeAt Go.RowKit
set_option linter.unusedVariables false

namespace Fl
theorem read_inf : Ieee.double.read INF = .infinity false := by decide +kernel
theorem read_ten : Ieee.double.read 4621819117588971520 = .number false 5629499534213120 (-49) := by decide +kernel
theorem word_pos (r : Nat) : Ieee.double.word false r = r := rfl
theorem write_le (mag : Nat) (place : Int) : Ieee.double.write (.number false mag place) ≤ INF := by
  show Ieee.double.nearest false mag place ≤ INF
  unfold Ieee.Format.nearest
  split
  · exact Nat.zero_le _
  · dsimp only
    rw [word_pos, infRung_eq]
    exact Nat.min_le_right _ _
theorem mul_ten {r : Nat} (h : r ≤ INF) : ∃ r', r' ≤ INF ∧ floatBits .mul .f64 r 4621819117588971520 = some r' := by
  rcases Nat.lt_or_ge r INF with h1 | h1
  · obtain ⟨m, k, hr, _⟩ := read_word false r h1
    rw [word_pos] at hr
    rw [mul_eq, Ieee.Format.mul, hr, read_ten]
    exact ⟨_, write_le _ _, rfl⟩
  · obtain rfl : r = INF := by omega
    exact ⟨INF, Nat.le_refl _, by decide +kernel⟩
end Fl

/-- the word of the scale behind k digits -/
def sc : Nat → Nat
  | 0 => 4607182418800017408
  | k + 1 => (floatBits .mul .f64 (sc k) 4621819117588971520).getD 0
theorem sc_le (k : Nat) : sc k ≤ Fl.INF := by
  induction k with
  | zero => decide +kernel
  | succ k ih => obtain ⟨r, h1, h2⟩ := Fl.mul_ten ih; rw [sc, h2]; exact h1
theorem sc_succ (k : Nat) : floatBits .mul .f64 (sc k) 4621819117588971520 = some (sc (k + 1)) := by
  obtain ⟨r, h1, h2⟩ := Fl.mul_ten (sc_le k); rw [sc, h2]; rfl

theorem lfrac_go {c : UInt8} {s : List UInt8} {x k : Nat} (hd : 48 ≤ c.toNat ∧ c.toNat ≤ 57) (h1 : x ≤ 922337203685477580) (h2 : x * 10 + (c.toNat - 48) ≤ 9223372036854775808) : lfrac (c :: s) x k false = lfrac s (x * 10 + (c.toNat - 48)) (k + 1) false := by
  rw [lfrac, if_pos (by unfold isDig; simp; exact hd), if_neg (by decide), if_neg (by unfold two63; omega), if_neg (by unfold two63; omega)]
theorem lfrac_big {c : UInt8} {s : List UInt8} {x k : Nat} {b : Bool} (hd : 48 ≤ c.toNat ∧ c.toNat ≤ 57) (h1 : b = true ∨ 922337203685477580 < x ∨ 9223372036854775808 < x * 10 + (c.toNat - 48)) : lfrac (c :: s) x k b = lfrac s x k true := by
  rw [lfrac, if_pos (by unfold isDig; simp; exact hd)]
  split
  · rfl
  · split
    · rfl
    · rename_i h2 h3
      rw [if_pos]
      rcases h1 with h1 | h1 | h1
      · exact absurd h1 h2
      · unfold two63 at h3; omega
      · exact h1
theorem lfrac_no {c : UInt8} {s : List UInt8} {x k : Nat} {b : Bool} (hd : ¬ (48 ≤ c.toNat ∧ c.toNat ≤ 57)) : lfrac (c :: s) x k b = (x, k, c :: s) := by
  rw [lfrac, if_neg (by unfold isDig; simp; omega)]

/-- what leadingFraction returns -/
def LfracPost (s : ByteArray) (w : World) (e : Ending) (w' : World) : Prop :=
  (∃ n, w' = w.drewN n) ∧ ∃ (x : Int) (k : Nat) (r : List UInt8), 0 ≤ x ∧ x ≤ 9223372036854775808 ∧ lfrac s.data.toList 0 0 false = (x.toNat, k, r) ∧ e = .returned (.tuple #[.int .u64 x, .float .f64 (sc k), .string (bs r)])

set_option maxHeartbeats 1000000 in
theorem lfrac_any (s : ByteArray) (w : World) (hs : s.size ≤ 140737488351232) :
    Calls Tryd.prog 38 #[.string s] w (LfracPost s w) := by
  go_enter Tryd.func38, Tryd.ntmps38
  go_wp2
  go_loop [2, 3, 5, 6, 7, 8] (fun x2 x3 x5 x6 x7 x8 => ∃ (i : Nat) (x : Int) (k : Nat) (b : Bool), i ≤ s.size ∧ 0 ≤ x ∧ x ≤ 9223372036854775808 ∧ lfrac s.data.toList 0 0 false = lfrac (s.data.toList.drop i) x.toNat k b ∧ x2 = .int .u64 x ∧ x3 = .float .f64 (sc k) ∧ x5 = .int .i64 (i : Int) ∧ x6 = .bool b) (fun _ _ x5 _ _ _ => s.size - (intOf x5).toNat)
  case atStart => exact ⟨0, 0, 0, false, Nat.zero_le _, by omega, by omega, by simp, rfl, rfl, rfl, rfl⟩
  case round =>
    obtain ⟨i, x, k, b, hi, h0, h1, hl, rfl, rfl, rfl, rfl⟩ := hrel
    have HL := Lib.hid hl
    have km := fun w => run_float_arith (P := Tryd.prog) w .mul 30 .f64 _ _ _ (sc_succ k)
    clear hl
    by_cases hlt : i < s.size
    · have hat := drop_at s hlt
      obtain ⟨c, hcc⟩ : ∃ c, s[i] = c := ⟨_, rfl⟩
      have HA : Hid (s.data.toList.drop i = c :: s.data.toList.drop (i + 1)) := Lib.hid (by rw [hat, hcc])
      clear hat
      have hcl : c.toNat < 256 := c.toNat_lt
      by_cases hd : 48 ≤ c.toNat ∧ c.toNat ≤ 57
      · obtain ⟨d1, d2⟩ := hd
        cases b
        · by_cases hx : x ≤ 922337203685477580
          · by_cases hy : x * 10 + (c.toNat : Int) - 48 ≤ 9223372036854775808
            · go_wp2
              go_round
              case rel => exact ⟨i + 1, x * 10 + (c.toNat : Int) - 48, k + 1, false, by omega, by omega, by omega, by rw [HL.out, HA.out, lfrac_go ⟨d1, d2⟩ (by omega) (by omega)]; congr 1; omega, by go_num, rfl, by go_num, rfl⟩
              case measure => simp [intOf]; omega
            · go_wp2
              go_round
              case rel => exact ⟨i + 1, x, k, true, by omega, h0, h1, by rw [HL.out, HA.out, lfrac_big ⟨d1, d2⟩ (by omega)], by go_num, rfl, by go_num, rfl⟩
              case measure => simp [intOf]; omega
          · go_wp2
            go_round
            case rel => exact ⟨i + 1, x, k, true, by omega, h0, h1, by rw [HL.out, HA.out, lfrac_big ⟨d1, d2⟩ (by omega)], by go_num, rfl, by go_num, rfl⟩
            case measure => simp [intOf]; omega
        · go_wp2
          go_round
          case rel => exact ⟨i + 1, x, k, true, by omega, h0, h1, by rw [HL.out, HA.out, lfrac_big ⟨d1, d2⟩ (Or.inl rfl)], by go_num, rfl, by go_num, rfl⟩
          case measure => simp [intOf]; omega
      · rcases Nat.lt_or_ge c.toNat 48 with hd' | hd'
        · go_wp2
          go_quiet (fail)
          go_wp2
          go_ret3
          exact ⟨⟨_, rfl⟩, x, k, c :: s.data.toList.drop (i + 1), h0, h1, by rw [HL.out, HA.out]; exact lfrac_no hd, by rw [← HA.out, ← bs_drop]; rfl⟩
        · have hd2 : 57 < c.toNat := by omega
          go_wp2
          go_quiet (fail)
          go_wp2
          go_ret3
          exact ⟨⟨_, rfl⟩, x, k, c :: s.data.toList.drop (i + 1), h0, h1, by rw [HL.out, HA.out]; exact lfrac_no hd, by rw [← HA.out, ← bs_drop]; rfl⟩
    · have he : i = s.size := by omega
      have HE := Lib.hid he
      clear he
      go_wp2
      go_quiet (fail)
      go_wp2
      go_ret3
      exact ⟨⟨_, rfl⟩, x, k, s.data.toList.drop i, h0, h1, by rw [HL.out, HE.out, ← list_len, List.drop_length]; rfl, by rw [← bs_drop]; rfl⟩

end Go.Proofs.YteejjhdfebhagaaDoor
