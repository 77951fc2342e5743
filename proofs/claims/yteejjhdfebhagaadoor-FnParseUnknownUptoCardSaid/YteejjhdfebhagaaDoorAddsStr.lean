/- The text of a size adds as many nanoseconds to what was read before, and is refused where that is too great. No program in sight. -/
import Derived.Test.YteejjhdfebhagaaDoorLawPlain
import Derived.Test.YteejjhdfebhagaaDoorStringW
namespace Go.Proofs.YteejjhdfebhagaaDoor

theorem adds_seg {vf : Nat → Nat → Nat → Nat} (hvf : Exact vf) (a v i b q : Nat) (u : List UInt8) (hi : i ≤ 9) (h0 : u ≠ []) (hu : units u) (hb : unitBy u = some b) (hq : b = q * 10 ^ i) (h : a * b + v % 10 ^ i * q ≤ two63) :
    Adds vf (dec a ++ (frac v i ++ u)) (a * b + v % 10 ^ i * q) := by
  have hun := unitBy_is hb
  have hb0 : 0 < b := by unfold isUnit at hun; omega
  unfold frac
  split
  · rename_i hf
    have hz : v % 10 ^ i = 0 := by
      have := dval_frs v i
      rw [hf, dval_nil, Nat.zero_mul] at this
      exact this.symm
    rw [hz, Nat.zero_mul, Nat.add_zero] at h ⊢
    have := adds_whole vf (A := dec a) (digits_dec a) (dec_ne a) h0 hu hb hb0 (by rw [dval_dec]; exact h)
    rw [dval_dec] at this
    exact this
  · rename_i hf
    have hlen := frs_len v i
    have hd := dval_lt (digits_frs v i)
    have hpow : 10 ^ (frs v i).length ≤ 10 ^ 9 := Nat.pow_le_pow_right (by decide) (by omega)
    have hsmall : dval (frs v i) 0 < two63 := by
      have : (10 : Nat) ^ 9 < two63 := by decide +kernel
      omega
    have e1 : 10 ^ i = 10 ^ (i - (frs v i).length) * 10 ^ (frs v i).length := by
      rw [← Nat.pow_add, show i - (frs v i).length + (frs v i).length = i by omega]
    have hx : vf (dval (frs v i) 0) b (frs v i).length = v % 10 ^ i * q := by
      rw [hvf _ b _ (q * 10 ^ (i - (frs v i).length)) (by rw [Nat.mul_assoc, ← e1]; exact hq) hun hd, ← dval_frs v i]
      rw [Nat.mul_comm q, Nat.mul_assoc]
    have hz : dval (frs v i) 0 = 0 → v % 10 ^ i * q = 0 := fun h9 => by rw [← dval_frs v i, h9, Nat.zero_mul, Nat.zero_mul]
    have := adds_point vf (A := dec a) (B := frs v i) (x := v % 10 ^ i * q) (digits_dec a) (digits_frs v i) (Or.inl (dec_ne a)) h0 hu hb hb0 hsmall (by
      rcases Nat.eq_zero_or_pos (dval (frs v i) 0) with h9 | h9
      · exact Or.inl ⟨h9, hz h9⟩
      · exact Or.inr ⟨h9, hx⟩) (by rw [dval_dec]; exact h)
    rw [dval_dec] at this
    exact this

theorem adds_dec (vf : Nat → Nat → Nat → Nat) (a b : Nat) (u : List UInt8) (h0 : u ≠ []) (hu : units u) (hb : unitBy u = some b) (h : a * b ≤ two63) : Adds vf (dec a ++ u) (a * b) := by
  have hun := unitBy_is hb
  have hb0 : 0 < b := by unfold isUnit at hun; omega
  have := adds_whole vf (A := dec a) (digits_dec a) (dec_ne a) h0 hu hb hb0 (by rw [dval_dec]; exact h)
  rw [dval_dec] at this
  exact this

theorem adds_eq {vf : Nat → Nat → Nat → Nat} {s s' : List UInt8} {X Y : Nat} (h : Adds vf s X) (hs : s = s') (hX : X = Y) : Adds vf s' Y := by subst hs; subst hX; exact h

/-- THE TEXT OF A SIZE ADDS IT. -/
theorem adds_strU {vf : Nat → Nat → Nat → Nat} (hvf : Exact vf) (n : Nat) (hn : n ≤ two63) : Adds vf (strU n) n := by
  have hT : two63 = 9223372036854775808 := rfl
  have ns : units [110, 115] := units_of (by decide)
  have us : units [194, 181, 115] := units_of (by decide)
  have ms : units [109, 115] := units_of (by decide)
  have s1 : units [115] := units_of (by decide)
  have m1 : units [109] := units_of (by decide)
  have h1 : units [104] := units_of (by decide)
  by_cases c0 : n = 0
  · subst c0
    have := adds_dec vf 0 1000000000 [115] (by decide) s1 (by decide) (by decide)
    exact adds_eq this (by decide +kernel) (by decide)
  by_cases c1 : n < 1000
  · have := adds_seg hvf n n 0 1 1 [110, 115] (by decide) (by decide) ns (by decide) (by decide) (by rw [Nat.pow_zero, Nat.mod_one]; omega)
    exact adds_eq this (strU_ns (by omega) c1).symm (by rw [Nat.pow_zero, Nat.mod_one]; omega)
  by_cases c2 : n < 1000000
  · have := adds_seg hvf (n / 1000) n 3 1000 1 [194, 181, 115] (by decide) (by decide) us (by decide) (by decide) (by rw [show (10 : Nat) ^ 3 = 1000 by decide]; omega)
    exact adds_eq this (strU_us (by omega) c2).symm (by rw [show (10 : Nat) ^ 3 = 1000 by decide]; omega)
  by_cases c3 : n < 1000000000
  · have := adds_seg hvf (n / 1000000) n 6 1000000 1 [109, 115] (by decide) (by decide) ms (by decide) (by decide) (by rw [show (10 : Nat) ^ 6 = 1000000 by decide]; omega)
    exact adds_eq this (strU_ms (by omega) c3).symm (by rw [show (10 : Nat) ^ 6 = 1000000 by decide]; omega)
  have e9 : (10 : Nat) ^ 9 = 1000000000 := by decide
  have sec := adds_seg hvf (n / 1000000000 % 60) n 9 1000000000 1 [115] (by decide) (by decide) s1 (by decide) (by decide) (by rw [e9]; omega)
  rw [e9] at sec
  have secU : noU (dec (n / 1000000000 % 60) ++ (frac n 9 ++ [115])) := noU_digits (digits_dec _) (dec_ne _) _
  by_cases c4 : n / 1000000000 / 60 = 0
  · exact adds_eq sec (strU_s (by omega) c4).symm (by omega)
  have min := adds_dec vf (n / 1000000000 / 60 % 60) 60000000000 [109] (by decide) m1 (by decide) (by omega)
  have minU : noU (dec (n / 1000000000 / 60 % 60) ++ [109] ++ (dec (n / 1000000000 % 60) ++ (frac n 9 ++ [115]))) := by
    rw [List.append_assoc]; exact noU_digits (digits_dec _) (dec_ne _) _
  have both := min.app sec secU
  by_cases c5 : n / 1000000000 / 60 / 60 = 0
  · exact adds_eq both (by rw [strU_m (by omega) c4 c5]; simp) (by omega)
  have hrs := adds_dec vf (n / 1000000000 / 60 / 60) 3600000000000 [104] (by decide) h1 (by decide) (by omega)
  exact adds_eq (hrs.app both minU) (by rw [strU_h (by omega) c4 c5]; simp) (by omega)

theorem strU_noU (n : Nat) : noU (strU n) := by
  obtain ⟨c, t, e, hc⟩ := strU_head n
  exact ⟨c, t, e, dig_noUnit hc⟩
theorem strU_unsign (n : Nat) (t : List UInt8) : unsign (strU n ++ t) = (false, strU n ++ t) := by
  obtain ⟨c, r, e, hc⟩ := strU_head n
  rw [e, List.cons_append]; exact unsign_digit hc
theorem str_of {d : Int} (h : 0 ≤ d) : str d = strU d.toNat := by
  unfold str; rw [if_neg (by omega), show d.natAbs = d.toNat by omega]

/-- a text that begins with a byte of a unit's name, or a sign, is none -/
theorem pl_head {vf : Nat → Nat → Nat → Nat} {c : UInt8} {t : List UInt8} {d : Nat} (h : inUnit c = true) : pl vf (c :: t) d = none := pl_none (List.cons_ne_nil _ _) (step_unit h)

end Go.Proofs.YteejjhdfebhagaaDoor
