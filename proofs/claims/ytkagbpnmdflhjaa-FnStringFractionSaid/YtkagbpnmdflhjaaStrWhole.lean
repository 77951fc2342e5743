/- Plain texts of whole hours, minutes, seconds and smaller units. -/
import Derived.Test.YtkagbpnmdflhjaaStrIs
import Derived.Test.YtkagbpnmdflhjaaDecW
namespace Go.Proofs.Ytkagbpnmdflhjaa
open Go.ChangeShapes Go.WideShapes Go.ChangeAt Go.RowKit

theorem frs_nil {u : Nat} : ∀ {i : Nat}, u % 10 ^ i = 0 → frs u i = [] := by
  intro i
  induction i with
  | zero => intro _; rfl
  | succ i ih =>
    intro h
    have h1 : u % 10 ^ i = 0 := by
      have := Nat.mod_mul_left_mod u 10 (10 ^ i)
      rw [← Nat.pow_succ', h] at this
      simpa using this.symm
    have h2 : u / 10 ^ i % 10 = 0 := by
      have := Nat.mod_mul_right_div_self u (10 ^ i) 10
      rw [← Nat.pow_succ, h] at this
      simpa using this.symm
    rw [frs, if_pos ⟨ih h1, h2⟩]

theorem frac_nil {u i : Nat} (h : u % 10 ^ i = 0) : frac u i = [] := by
  unfold frac; rw [if_pos (frs_nil h)]

theorem str_nat (u : Nat) : str (u : Int) = strU u := by
  unfold str
  rw [if_neg (by omega), Int.natAbs_natCast]

theorem str_hms (h m s : Nat) (h1 : 1 ≤ h) (hm : m ≤ 59) (hs : s ≤ 59) :
    str (((h * 3600 + m * 60 + s) * 1000000000 : Nat) : Int) = dec h ++ (104 :: (dec m ++ (109 :: (dec s ++ [115])))) := by
  obtain ⟨u, hu⟩ : ∃ u, u = (h * 3600 + m * 60 + s) * 1000000000 := ⟨_, rfl⟩
  rw [← hu, str_nat]
  have q1 : u / 1000000000 = h * 3600 + m * 60 + s := by omega
  have q2 : (h * 3600 + m * 60 + s) / 60 = h * 60 + m := by omega
  have q3 : (h * 3600 + m * 60 + s) % 60 = s := by omega
  have q4 : (h * 60 + m) / 60 = h := by omega
  have q5 : (h * 60 + m) % 60 = m := by omega
  rw [strU_h (by omega) (by rw [q1, q2]; omega) (by rw [q1, q2, q4]; omega), q1, q2, q3, q4, q5, frac_nil (by omega)]
  rfl

theorem str_ms (m s : Nat) (h1 : 1 ≤ m) (hm : m ≤ 59) (hs : s ≤ 59) :
    str (((m * 60 + s) * 1000000000 : Nat) : Int) = dec m ++ (109 :: (dec s ++ [115])) := by
  obtain ⟨u, hu⟩ : ∃ u, u = (m * 60 + s) * 1000000000 := ⟨_, rfl⟩
  rw [← hu, str_nat]
  have q1 : u / 1000000000 = m * 60 + s := by omega
  have q2 : (m * 60 + s) / 60 = m := by omega
  have q3 : (m * 60 + s) % 60 = s := by omega
  rw [strU_m (by omega) (by rw [q1, q2]; omega) (by rw [q1, q2]; omega), q1, q2, q3, Nat.mod_eq_of_lt (by omega), frac_nil (by omega)]
  rfl

theorem str_sec (n : Nat) (h1 : 1 ≤ n) (h2 : n < 60) : str ((n * 1000000000 : Nat) : Int) = dec n ++ [115] := by
  obtain ⟨u, hu⟩ : ∃ u, u = n * 1000000000 := ⟨_, rfl⟩
  rw [← hu, str_nat]
  have q1 : u / 1000000000 = n := by omega
  rw [strU_s (by omega) (by rw [q1]; omega), q1, Nat.mod_eq_of_lt h2, frac_nil (by omega)]
  rfl
theorem str_nano (n : Nat) (h1 : 1 ≤ n) (h2 : n ≤ 999) : str (n : Int) = dec n ++ [110, 115] := by
  unfold str
  rw [if_neg (by omega), Int.natAbs_natCast, strU_ns h1 (by omega)]
  rfl
theorem str_micro (n : Nat) (h1 : 1 ≤ n) (h2 : n ≤ 999) : str ((n * 1000 : Nat) : Int) = dec n ++ [194, 181, 115] := by
  obtain ⟨u, hu⟩ : ∃ u, u = n * 1000 := ⟨_, rfl⟩
  have q1 : u / 1000 = n := by omega
  rw [← hu, str_nat, strU_us (by omega) (by omega), q1, frac_nil (by omega)]
  rfl
theorem str_milli (n : Nat) (h1 : 1 ≤ n) (h2 : n ≤ 999) : str ((n * 1000000 : Nat) : Int) = dec n ++ [109, 115] := by
  obtain ⟨u, hu⟩ : ∃ u, u = n * 1000000 := ⟨_, rfl⟩
  have q1 : u / 1000000 = n := by omega
  rw [← hu, str_nat, strU_ms (by omega) (by omega), q1, frac_nil (by omega)]
  rfl

end Go.Proofs.Ytkagbpnmdflhjaa
