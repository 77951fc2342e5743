/- Plain laws on whole numbers: what rounding a number to a step comes to, case by case; no program in sight. -/
import Derived.Test.YtapbcdchalgafaaNumPlain2
namespace Go.Proofs.Ytapbcdchalgafaa

theorem round_zero {d m : Int} (hm : m ≤ 0) : roundd d m = d := by unfold roundd; rw [if_pos hm]
theorem trunc_zero {d m : Int} (hm : m ≤ 0) : trunc d m = d := by unfold trunc; rw [if_pos hm]

theorem trunc_pos {d m : Int} (hd : 0 ≤ d) (hm : 0 < m) : trunc d m = d - d % m := by
  unfold trunc; rw [if_neg (by omega), Int.tmod_eq_emod_of_nonneg hd]

theorem tmod_of_neg {d m : Int} (hd : d ≤ 0) : d.tmod m = -((-d) % m) := by
  have e : d = -(-d) := by omega
  rw [e, Int.neg_tmod, Int.tmod_eq_emod_of_nonneg (by omega), Int.neg_neg]

theorem trunc_negd {d m : Int} (hd : d ≤ 0) (hm : 0 < m) : trunc d m = d + (-d) % m := by
  unfold trunc; rw [if_neg (by omega), tmod_of_neg hd]; omega

theorem emod_rng {d m : Int} (hd : 0 ≤ d) (hm : 0 < m) : 0 ≤ d % m ∧ d % m < m ∧ d % m ≤ d :=
  ⟨Int.emod_nonneg _ (by omega), Int.emod_lt_of_pos _ hm, emod_le_self hd hm⟩

theorem round_pos1 {d m : Int} (hd : 0 ≤ d) (hm : 0 < m) (h : d % m + d % m < m) : roundd d m = d - d % m := by
  unfold roundd
  rw [if_neg (by omega), if_neg (by omega), Int.tmod_eq_emod_of_nonneg hd, if_pos h]
theorem round_pos2 {d m : Int} (hd : 0 ≤ d) (hm : 0 < m) (h : m ≤ d % m + d % m) (hB : d + m - d % m ≤ 9223372036854775807) : roundd d m = d + m - d % m := by
  unfold roundd top
  rw [if_neg (by omega), if_neg (by omega), Int.tmod_eq_emod_of_nonneg hd, if_neg (by omega), if_pos hB]
theorem round_pos3 {d m : Int} (hd : 0 ≤ d) (hm : 0 < m) (h : m ≤ d % m + d % m) (hB : 9223372036854775807 < d + m - d % m) : roundd d m = 9223372036854775807 := by
  unfold roundd top
  rw [if_neg (by omega), if_neg (by omega), Int.tmod_eq_emod_of_nonneg hd, if_neg (by omega), if_neg (by omega)]

theorem round_neg1 {d m : Int} (hd : d < 0) (hm : 0 < m) (h : (-d) % m + (-d) % m < m) : roundd d m = d + (-d) % m := by
  unfold roundd
  rw [if_neg (by omega), if_pos hd, tmod_of_neg (by omega), Int.neg_neg, if_pos h]
theorem round_neg2 {d m : Int} (hd : d < 0) (hm : 0 < m) (h : m ≤ (-d) % m + (-d) % m) (hB : -9223372036854775808 ≤ d - m + (-d) % m) : roundd d m = d - m + (-d) % m := by
  unfold roundd low
  rw [if_neg (by omega), if_pos hd, tmod_of_neg (by omega), Int.neg_neg, if_neg (by omega), if_pos (by omega)]
  omega
theorem round_neg3 {d m : Int} (hd : d < 0) (hm : 0 < m) (h : m ≤ (-d) % m + (-d) % m) (hB : d - m + (-d) % m < -9223372036854775808) : roundd d m = -9223372036854775808 := by
  unfold roundd low
  rw [if_neg (by omega), if_pos hd, tmod_of_neg (by omega), Int.neg_neg, if_neg (by omega), if_neg (by omega)]

theorem emod_zero_of_tmod {d m : Int} (h : d.tmod m = 0) : d % m = 0 ∧ (-d) % m = 0 := by
  have h1 : m ∣ d := Int.dvd_of_tmod_eq_zero h
  exact ⟨Int.emod_eq_zero_of_dvd h1, Int.emod_eq_zero_of_dvd (Int.dvd_neg.2 h1)⟩

/-- A multiple stays. -/
theorem round_mult {d m : Int} (hm : 0 < m) (h : d.tmod m = 0) : roundd d m = d := by
  obtain ⟨e1, e2⟩ := emod_zero_of_tmod h
  by_cases hd : 0 ≤ d
  · rw [round_pos1 hd hm (by omega)]; omega
  · rw [round_neg1 (by omega) hm (by omega)]; omega

theorem round_bounds {d m : Int} (h1 : -9223372036854775808 ≤ d) (h2 : d ≤ 9223372036854775807) : -9223372036854775808 ≤ roundd d m ∧ roundd d m ≤ 9223372036854775807 := by
  by_cases hm : m ≤ 0
  · rw [round_zero hm]; exact ⟨h1, h2⟩
  · have hm' : 0 < m := by omega
    by_cases hd : 0 ≤ d
    · have r := emod_rng hd hm'
      by_cases hA : d % m + d % m < m
      · rw [round_pos1 hd hm' hA]; omega
      · by_cases hB : d + m - d % m ≤ 9223372036854775807
        · rw [round_pos2 hd hm' (by omega) hB]; omega
        · rw [round_pos3 hd hm' (by omega) (by omega)]; omega
    · have r := emod_rng (d := -d) (by omega) hm'
      by_cases hA : (-d) % m + (-d) % m < m
      · rw [round_neg1 (by omega) hm' hA]; omega
      · by_cases hB : -9223372036854775808 ≤ d - m + (-d) % m
        · rw [round_neg2 (by omega) hm' (by omega) hB]; omega
        · rw [round_neg3 (by omega) hm' (by omega) (by omega)]; omega

/-- A duration of at least 0 and its other one. -/
theorem round_mirror {d m : Int} (hm : 0 < m) (hd : 0 ≤ d) (h2 : d ≤ 9223372036854775807) :
    (roundd d m = 9223372036854775807 ∧ roundd (-d) m = -9223372036854775808) ∨ (roundd d m ≠ -9223372036854775808 ∧ roundd (-d) m = -roundd d m ∧ (d = 0 → roundd d m = 0) ∧ 0 ≤ roundd d m) := by
  have r := emod_rng hd hm
  by_cases h0 : d = 0
  · subst h0
    have e : roundd 0 m = 0 := round_mult hm (by simp)
    right
    rw [Int.neg_zero, e]
    omega
  · by_cases hA : d % m + d % m < m
    · have e1 := round_pos1 hd hm hA
      have e2 := round_neg1 (d := -d) (by omega) hm (by rw [Int.neg_neg]; exact hA)
      rw [Int.neg_neg] at e2
      rw [e1, e2]; omega
    · by_cases hB : d + m - d % m ≤ 9223372036854775807
      · have e1 := round_pos2 hd hm (by omega) hB
        have e2 := round_neg2 (d := -d) (by omega) hm (by rw [Int.neg_neg]; omega) (by rw [Int.neg_neg]; omega)
        rw [Int.neg_neg] at e2
        rw [e1, e2]; omega
      · have e1 := round_pos3 hd hm (by omega) (by omega)
        left
        refine ⟨e1, ?_⟩
        by_cases hC : -9223372036854775808 ≤ -d - m + d % m
        · have e2 := round_neg2 (d := -d) (by omega) hm (by rw [Int.neg_neg]; omega) (by rw [Int.neg_neg]; omega)
          rw [Int.neg_neg] at e2
          rw [e2]; omega
        · exact round_neg3 (d := -d) (by omega) hm (by rw [Int.neg_neg]; omega) (by rw [Int.neg_neg]; omega)

/-- Truncating keeps the order. -/
theorem ediv_mul_mono {a b m : Int} (hm : 0 < m) (h : a ≤ b) : a - a % m ≤ b - b % m := by
  have e1 := Int.mul_ediv_add_emod a m
  have e2 := Int.mul_ediv_add_emod b m
  have q := Int.ediv_le_ediv hm h
  have := Int.mul_le_mul_of_nonneg_left q (show 0 ≤ m by omega)
  omega

theorem trunc_mono {a b m : Int} (h : a ≤ b) : trunc a m ≤ trunc b m := by
  by_cases hm : m ≤ 0
  · rw [trunc_zero hm, trunc_zero hm]; exact h
  · have hm' : 0 < m := by omega
    by_cases ha : 0 ≤ a
    · rw [trunc_pos ha hm', trunc_pos (by omega) hm']
      exact ediv_mul_mono hm' h
    · by_cases hb : 0 ≤ b
      · have s1 := (trunc_sign (d := a) hm').2 (by omega)
        have s2 := (trunc_sign (d := b) hm').1 hb
        omega
      · rw [trunc_negd (by omega) hm', trunc_negd (by omega) hm']
        have := ediv_mul_mono hm' (show -b ≤ -a by omega)
        omega

theorem round_is_trunc {d m : Int} (hd : 0 ≤ d) (hm : 0 < m) (h : d ≤ 9223372036854775807 - m) : roundd d m = trunc (d + m / 2) m := by
  have r := emod_rng hd hm
  rw [trunc_pos (by omega) hm]
  have e := Int.mul_ediv_add_emod d m
  by_cases hA : d % m + d % m < m
  · rw [round_pos1 hd hm hA]
    have : (d + m / 2) % m = d % m + m / 2 := by
      have e3 : d + m / 2 = (d % m + m / 2) + m * (d / m) := by omega
      rw [e3, Int.add_mul_emod_self_left]
      exact Int.emod_eq_of_lt (by omega) (by omega)
    omega
  · rw [round_pos2 hd hm (by omega) (by omega)]
    have : (d + m / 2) % m = d % m + m / 2 - m := by
      have e3 : d + m / 2 = (d % m + m / 2 - m) + m * (d / m + 1) := by rw [Int.mul_add]; omega
      rw [e3, Int.add_mul_emod_self_left]
      exact Int.emod_eq_of_lt (by omega) (by omega)
    omega

theorem round_pos_cases {d m : Int} (hd : 0 ≤ d) (hm : 0 < m) :
    (d % m + d % m < m ∧ roundd d m = d - d % m) ∨ (m ≤ d % m + d % m ∧ roundd d m = d + m - d % m ∧ d + m - d % m ≤ 9223372036854775807) ∨ (m ≤ d % m + d % m ∧ 9223372036854775807 < d + m - d % m ∧ roundd d m = 9223372036854775807) := by
  by_cases hA : d % m + d % m < m
  · exact Or.inl ⟨hA, round_pos1 hd hm hA⟩
  · by_cases hB : d + m - d % m ≤ 9223372036854775807
    · exact Or.inr (Or.inl ⟨by omega, round_pos2 hd hm (by omega) hB, hB⟩)
    · exact Or.inr (Or.inr ⟨by omega, by omega, round_pos3 hd hm (by omega) (by omega)⟩)

theorem round_neg_cases {d m : Int} (hd : d < 0) (hm : 0 < m) :
    ((-d) % m + (-d) % m < m ∧ roundd d m = d + (-d) % m) ∨ (m ≤ (-d) % m + (-d) % m ∧ roundd d m = d - m + (-d) % m ∧ -9223372036854775808 ≤ d - m + (-d) % m) ∨ (m ≤ (-d) % m + (-d) % m ∧ d - m + (-d) % m < -9223372036854775808 ∧ roundd d m = -9223372036854775808) := by
  by_cases hA : (-d) % m + (-d) % m < m
  · exact Or.inl ⟨hA, round_neg1 hd hm hA⟩
  · by_cases hB : -9223372036854775808 ≤ d - m + (-d) % m
    · exact Or.inr (Or.inl ⟨by omega, round_neg2 hd hm (by omega) hB, hB⟩)
    · exact Or.inr (Or.inr ⟨by omega, by omega, round_neg3 hd hm (by omega) (by omega)⟩)

theorem same_or_step {a b m : Int} (hm : 0 < m) (h : a ≤ b) : a - a % m = b - b % m ∨ a - a % m + m ≤ b - b % m := by
  have e1 := Int.mul_ediv_add_emod a m
  have e2 := Int.mul_ediv_add_emod b m
  have q := Int.ediv_le_ediv hm h
  by_cases hq : a / m = b / m
  · left; rw [hq] at e1; omega
  · right
    have := Int.mul_le_mul_of_nonneg_left (show a / m + 1 ≤ b / m by omega) (show 0 ≤ m by omega)
    rw [Int.mul_add] at this
    omega

theorem round_mono {a b m : Int} (h1 : -9223372036854775808 ≤ a) (h : a ≤ b) (h2 : b ≤ 9223372036854775807) : roundd a m ≤ roundd b m := by
  by_cases hm : m ≤ 0
  · rw [round_zero hm, round_zero hm]; exact h
  · have hm' : 0 < m := by omega
    by_cases ha : 0 ≤ a
    · have r1 := emod_rng ha hm'
      have r2 := emod_rng (show 0 ≤ b by omega) hm'
      have key := same_or_step hm' h
      have c1 := round_pos_cases ha hm'
      have c2 := round_pos_cases (d := b) (by omega) hm'
      generalize roundd a m = x at *
      generalize roundd b m = y at *
      omega
    · have r1 := emod_rng (show 0 ≤ -a by omega) hm'
      have c1 := round_neg_cases (d := a) (by omega) hm'
      by_cases hb : 0 ≤ b
      · have r2 := emod_rng hb hm'
        have c2 := round_pos_cases (d := b) (by omega) hm'
        generalize roundd a m = x at *
        generalize roundd b m = y at *
        omega
      · have r2 := emod_rng (show 0 ≤ -b by omega) hm'
        have key := same_or_step hm' (show -b ≤ -a by omega)
        have c2 := round_neg_cases (d := b) (by omega) hm'
        generalize roundd a m = x at *
        generalize roundd b m = y at *
        omega

/-- The greatest number is a multiple only where nothing goes beyond it. -/
theorem top_no_mult {d m : Int} (hd : 0 ≤ d) (hm : 0 < m) (h2 : d ≤ 9223372036854775807) (hA : m ≤ d % m + d % m) (hB : 9223372036854775807 < d + m - d % m) : (9223372036854775807 : Int).tmod m ≠ 0 := by
  intro h
  obtain ⟨e, _⟩ := emod_zero_of_tmod h
  have key := same_or_step hm h2
  have r := emod_rng hd hm
  omega

theorem low_no_mult {d m : Int} (hd : d < 0) (hm : 0 < m) (h1 : -9223372036854775808 ≤ d) (hA : m ≤ (-d) % m + (-d) % m) (hB : d - m + (-d) % m < -9223372036854775808) : (-9223372036854775808 : Int).tmod m ≠ 0 := by
  intro h
  obtain ⟨_, e⟩ := emod_zero_of_tmod h
  have key := same_or_step hm (show -d ≤ 9223372036854775808 by omega)
  have r := emod_rng (show 0 ≤ -d by omega) hm
  have e' : (9223372036854775808 : Int) % m = 0 := e
  omega

theorem sub_emod_tmod {d m : Int} (hd : 0 ≤ d) : (d - d % m).tmod m = 0 := by
  rw [← Int.tmod_eq_emod_of_nonneg hd]; exact sub_tmod_tmod d m
theorem add_sub_emod_tmod {d m : Int} : (d + m - d % m).tmod m = 0 := by
  have h := Int.mul_ediv_add_emod d m
  have e : d + m - d % m = m * (d / m + 1) := by rw [Int.mul_add]; omega
  rw [e]; exact Int.mul_tmod_right _ _
theorem neg_emod_tmod {d m : Int} : (d + (-d) % m).tmod m = 0 := by
  have h := Int.mul_ediv_add_emod (-d) m
  have e : d + (-d) % m = m * (-((-d) / m)) := by rw [Int.mul_neg]; omega
  rw [e]; exact Int.mul_tmod_right _ _
theorem neg_sub_emod_tmod {d m : Int} : (d - m + (-d) % m).tmod m = 0 := by
  have h := Int.mul_ediv_add_emod (-d) m
  have e : d - m + (-d) % m = m * (-((-d) / m) - 1) := by rw [Int.mul_sub, Int.mul_neg]; omega
  rw [e]; exact Int.mul_tmod_right _ _

end Go.Proofs.Ytapbcdchalgafaa
