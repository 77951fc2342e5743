/- Plain laws on whole numbers: the truncated number is a multiple of the step, on the same side, nearer to 0 by less than the step. -/
import Derived.Test.YtapbcdchalgafaaNumPlain
import Derived.Lib.Hide
namespace Go.Proofs.Ytapbcdchalgafaa

theorem trunc_bounds {d m : Int} (h1 : -9223372036854775808 ≤ d) (h2 : d ≤ 9223372036854775807) : -9223372036854775808 ≤ trunc d m ∧ trunc d m ≤ 9223372036854775807 := by
  unfold trunc
  split
  · exact ⟨h1, h2⟩
  · by_cases hd : 0 ≤ d
    · have := tmod_pos (m := m) hd (by omega); omega
    · have := tmod_neg (d := d) (m := m) (by omega) (by omega); omega

theorem sub_tmod_tmod (d m : Int) : (d - d.tmod m).tmod m = 0 := by
  have h := Int.mul_tdiv_add_tmod d m
  have e : d - d.tmod m = m * d.tdiv m := by omega
  rw [e]
  exact Int.mul_tmod_right _ _

theorem trunc_tmod {d m : Int} (hm : 0 < m) : (trunc d m).tmod m = 0 := by
  unfold trunc
  rw [if_neg (by omega)]
  exact sub_tmod_tmod d m

theorem trunc_trunc {d m : Int} (hm : 0 < m) : trunc (trunc d m) m = trunc d m := by
  have h := trunc_tmod (d := d) hm
  generalize trunc d m = t at h
  unfold trunc
  rw [if_neg (by omega), h]
  omega

theorem trunc_sign {d m : Int} (hm : 0 < m) : (0 ≤ d → 0 ≤ trunc d m ∧ trunc d m ≤ d ∧ d - trunc d m < m) ∧ (d ≤ 0 → trunc d m ≤ 0 ∧ d ≤ trunc d m ∧ trunc d m - d < m) := by
  unfold trunc
  rw [if_neg (by omega)]
  constructor
  · intro hd
    have := tmod_pos (m := m) hd hm; omega
  · intro hd
    have := tmod_neg (m := m) hd hm; omega

theorem trunc_rest {d m : Int} (hm : 0 < m) : trunc (d - trunc d m) m = 0 := by
  have e : d - trunc d m = d.tmod m := by unfold trunc; rw [if_neg (by omega)]; omega
  rw [e]
  unfold trunc
  rw [if_neg (by omega), Int.tmod_tmod]
  omega

theorem ediv_twice (u m k : Int) (hm : 0 < m) (hk : 0 < k) : u - u % m - (u - u % m) % (m * k) = u - u % (m * k) := by
  have h1 : (u - u % m) % (m * k) = u % (m * k) - u % m := by
    have e1 := Int.mul_ediv_add_emod u (m * k)
    have hmk : 0 < m * k := Int.mul_pos hm hk
    have b0 := Int.emod_nonneg u (show m * k ≠ 0 by omega)
    have b1 := Int.emod_lt_of_pos u hmk
    have c1 : (u % (m * k)) % m = u % m := Int.emod_emod_of_dvd u ⟨k, rfl⟩
    have c2 := emod_le_self (a := u % (m * k)) (b := m) b0 hm
    have c3 := Int.emod_nonneg u (show m ≠ 0 by omega)
    have e2 : u - u % m = (u % (m * k) - u % m) + (m * k) * (u / (m * k)) := by omega
    rw [e2, Int.add_mul_emod_self_left]
    exact Int.emod_eq_of_lt (by omega) (by omega)
  omega

theorem trunc_neg (d m : Int) : trunc (-d) m = -trunc d m := by
  unfold trunc
  split
  · rfl
  · rw [Int.neg_tmod]; omega

theorem trunc_twice {d m k : Int} (hm : 1 ≤ m) (hk : 1 ≤ k) : trunc (trunc d m) (m * k) = trunc d (m * k) := by
  have hmk : 0 < m * k := Int.mul_pos (by omega) (by omega)
  have key : ∀ u : Int, 0 ≤ u → trunc (trunc u m) (m * k) = trunc u (m * k) := by
    intro u hu
    have s := (trunc_sign (d := u) (m := m) (by omega)).1 hu
    have e1 : trunc u m = u - u % m := by unfold trunc; rw [if_neg (by omega), Int.tmod_eq_emod_of_nonneg hu]
    have e2 : ∀ x, 0 ≤ x → trunc x (m * k) = x - x % (m * k) := by
      intro x hx; unfold trunc; rw [if_neg (by omega), Int.tmod_eq_emod_of_nonneg hx]
    rw [e2 _ s.1, e2 _ hu, e1]
    exact ediv_twice u m k (by omega) (by omega)
  by_cases hd : 0 ≤ d
  · exact key d hd
  · have := key (-d) (by omega)
    rw [trunc_neg, trunc_neg, trunc_neg] at this
    omega

end Go.Proofs.Ytapbcdchalgafaa
