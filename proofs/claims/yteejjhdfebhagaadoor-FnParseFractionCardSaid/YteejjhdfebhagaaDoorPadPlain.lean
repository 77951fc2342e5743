/- Plain texts of fixed width, and their zeros at the end cut off. No program in sight. -/
import Derived.Test.YteejjhdfebhagaaDoorStrPlain
namespace Go.Proofs.YteejjhdfebhagaaDoor

/-- the last i digits of a number, all of them -/
def pads : Nat → Nat → List UInt8
  | 0, _ => []
  | i + 1, v => dg (v / 10 ^ i) :: pads i v

theorem pads_len (i v : Nat) : (pads i v).length = i := by
  induction i with
  | zero => rfl
  | succ i ih => rw [pads, List.length_cons, ih]

theorem pads_snoc (i v : Nat) : pads (i + 1) v = pads i (v / 10) ++ [dg v] := by
  induction i with
  | zero => rw [pads, pads, pads, Nat.pow_zero, Nat.div_one]; rfl
  | succ i ih =>
    rw [pads, ih, pads, List.cons_append]
    congr 2
    rw [Nat.div_div_eq_div_mul, Nat.pow_succ, Nat.mul_comm]

theorem dg_zero {n : Nat} (h : n % 10 = 0) : dg n = 48 := by unfold dg; rw [h]; rfl

theorem pads_frs (v i : Nat) : pads i v = frs v i ++ List.replicate (i - (frs v i).length) 48 := by
  induction i with
  | zero => rfl
  | succ i ih =>
    have hl := frs_len v i
    rw [pads, ih, frs]
    split
    · rename_i h
      rw [h.1, dg_zero h.2]
      rfl
    · rw [List.cons_append, List.length_cons, show i + 1 - ((frs v i).length + 1) = i - (frs v i).length by omega]

theorem pads_zero (i : Nat) : pads i 0 = List.replicate i 48 := by
  induction i with
  | zero => rfl
  | succ i ih => rw [pads, ih, Nat.zero_div, List.replicate_succ]; rfl

/-- a number in decimal with zeros in front -/
theorem pads_digs (k n : Nat) (h : n < 10 ^ k) : pads k n = List.replicate (k - (digs n).length) 48 ++ digs n := by
  induction k generalizing n with
  | zero =>
    have : n = 0 := by simpa using h
    subst this; rw [digs_zero]; rfl
  | succ k ih =>
    by_cases h0 : n = 0
    · subst h0; rw [digs_zero, pads_zero]; simp
    · have hk : n / 10 < 10 ^ k := by rw [Nat.pow_succ] at h; omega
      have hl := digs_len k (n / 10) hk
      rw [pads_snoc, ih _ hk, digs_pos h0, List.length_append, List.append_assoc]
      congr 2
      simp

theorem pads_dec (k n : Nat) (hk : 1 ≤ k) (h : n < 10 ^ k) : pads k n = List.replicate (k - (dec n).length) 48 ++ dec n := by
  unfold dec
  split
  · rename_i h0; subst h0
    rw [pads_zero]
    obtain ⟨j, rfl⟩ : ∃ j, k = j + 1 := ⟨k - 1, by omega⟩
    rw [List.replicate_succ']
    rfl
  · exact pads_digs k n h

/-- no zero at the end -/
def trimmed (l : List UInt8) : Prop := l.getLast? ≠ some 48

theorem trim_unique {a b : List UInt8} {i j : Nat} (ha : trimmed a) (hb : trimmed b) (h : a ++ List.replicate i 48 = b ++ List.replicate j 48) : a = b := by
  induction i generalizing j with
  | zero =>
    cases j with
    | zero => simpa using h
    | succ j =>
      exfalso
      rw [List.replicate_succ', ← List.append_assoc, List.replicate_zero, List.append_nil] at h
      apply ha
      rw [h]; simp
  | succ i ih =>
    cases j with
    | zero =>
      exfalso
      rw [List.replicate_succ', ← List.append_assoc, List.replicate_zero, List.append_nil] at h
      apply hb
      rw [← h]; simp
    | succ j =>
      rw [List.replicate_succ', List.replicate_succ', ← List.append_assoc, ← List.append_assoc] at h
      exact ih (List.append_cancel_right h)

theorem frs_trimmed (v i : Nat) : trimmed (frs v i) := by
  induction i with
  | zero => unfold trimmed frs; simp
  | succ i ih =>
    unfold trimmed at *
    rw [frs]
    split
    · simp
    · rename_i h
      cases hf : frs v i with
      | nil =>
        rw [hf] at h
        simp at h
        intro e
        simp at e
        have := congrArg UInt8.toNat e
        rw [dg_toNat] at this
        simp at this
        omega
      | cons c t =>
        rw [hf] at ih
        rw [List.getLast?_cons_cons]
        exact ih

theorem frs_mod {v m i : Nat} (h : ∃ q, m = q * 10 ^ i) : frs (v % m) i = frs v i := by
  induction i with
  | zero => rfl
  | succ i ih =>
    obtain ⟨q, hq⟩ := h
    have e : m = q * 10 * 10 ^ i := by rw [hq, Nat.pow_succ, Nat.mul_assoc, Nat.mul_comm (10 ^ i)]
    have hd : (v % m) / 10 ^ i = v / 10 ^ i % (q * 10) := by
      rw [e, Nat.mul_comm (q * 10)]
      exact Nat.mod_mul_right_div_self v (10 ^ i) (q * 10)
    have hm : (v % m) / 10 ^ i % 10 = v / 10 ^ i % 10 := by
      rw [hd, Nat.mul_comm q, Nat.mod_mul_right_mod]
    have hdg : dg ((v % m) / 10 ^ i) = dg (v / 10 ^ i) := by unfold dg; rw [hm]
    rw [frs, frs, ih ⟨q * 10, e⟩, hm, hdg]

theorem frac_mod {v m i : Nat} (h : ∃ q, m = q * 10 ^ i) : frac (v % m) i = frac v i := by
  unfold frac; rw [frs_mod h]

end Go.Proofs.YteejjhdfebhagaaDoor
