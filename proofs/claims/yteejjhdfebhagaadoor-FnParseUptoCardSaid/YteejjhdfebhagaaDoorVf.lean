/- What the model reckons for the fraction of a number: a function of its digits, the unit and the count of digits; that it is never out of range, and exact where the digits are whole nanoseconds. -/
import Derived.Test.YteejjhdfebhagaaDoorParseHelp
namespace Go.Proofs.YteejjhdfebhagaaDoor
namespace Fl
open Ieee

theorem cut_zero (neg : Bool) (n drop : Nat) : Toward.zero.cut neg n drop = n / 2 ^ drop := by
  unfold Toward.cut
  dsimp only
  rw [show (false : Bool).toNat = 0 from rfl, Nat.add_zero, Nat.one_shiftLeft]
  rcases Nat.lt_or_ge (n.log2 + 2) drop with h | h
  · rw [Nat.min_eq_right (Nat.le_of_lt h)]
    have h1 : n < 2 ^ (n.log2 + 1) := Nat.lt_log2_self
    have h2 : 2 ^ (n.log2 + 1) ≤ 2 ^ (n.log2 + 2) := Nat.pow_le_pow_right (by decide) (by omega)
    have h3 : 2 ^ (n.log2 + 2) ≤ 2 ^ drop := Nat.pow_le_pow_right (by decide) (by omega)
    rw [Nat.div_eq_of_lt (by omega), Nat.div_eq_of_lt (by omega)]
  · rw [Nat.min_eq_left h]

theorem toInt_is (r : Nat) (h : r < INF) : (double.read (double.word false r)).toInt .zero = some ((val r / K : Nat) : Int) := by
  obtain ⟨m, k, e, hv⟩ := read_word false r h
  rw [e]
  unfold Datum.toInt Datum.integral
  dsimp only
  rw [cut_zero, signed_eq, Nat.shiftLeft_eq, Nat.pow_zero, Nat.mul_one]
  congr 1
  show ((_ : Nat) : Int) = _
  congr 1
  rw [hv]
  rcases Nat.lt_or_ge k 1074 with hk | hk
  · rw [show (-1074 + (k : Int)).toNat = 0 by omega, show (-(-1074 + (k : Int))).toNat = 1074 - k by omega, Nat.pow_zero, Nat.mul_one]
    have e2 : 2 ^ LP = 2 ^ (1074 - k) * 2 ^ k := by
      rw [← Nat.pow_add, show 1074 - k + k = LP by unfold LP; omega]
    show _ = m * 2 ^ k / 2 ^ LP
    rw [e2, Nat.mul_div_mul_right _ _ (Nat.two_pow_pos k)]
  · rw [show (-1074 + (k : Int)).toNat = k - LP by unfold LP; omega, show (-(-1074 + (k : Int))).toNat = 0 by omega, Nat.pow_zero, Nat.div_one]
    show _ = m * 2 ^ k / 2 ^ LP
    have e2 : 2 ^ k = 2 ^ (k - LP) * 2 ^ LP := by
      rw [← Nat.pow_add, show k - LP + LP = k by unfold LP; omega]
    rw [e2, ← Nat.mul_assoc, Nat.mul_div_cancel _ (Nat.two_pow_pos LP)]

theorem mul_pos (a b : Nat) (ha : a < INF) (hb : b < INF) : double.mul (double.word false a) (double.word false b) = some (double.word false (rungS LP (val a * val b))) := by
  obtain ⟨m, i, e1, v1⟩ := read_word false a ha
  obtain ⟨n, j, e2, v2⟩ := read_word false b hb
  unfold Format.mul
  rw [e1, e2]
  unfold Datum.product
  show some (double.nearest (false ^^ false) (m * n) _) = _
  congr 1
  rw [show (false ^^ false) = false from rfl, v1, v2]
  have e3 : m * 2 ^ i * (n * 2 ^ j) = m * n * 2 ^ (i + j) := by
    rw [Nat.pow_add, Nat.mul_assoc, Nat.mul_assoc, ← Nat.mul_assoc (2 ^ i), Nat.mul_comm (2 ^ i), Nat.mul_assoc n]
  rw [e3]
  rcases Nat.lt_or_ge LP (i + j) with h | h
  · rw [nearest_hi false (m * n) _ (by unfold LP at h; omega)]
    rw [show (-1074 + (i : Int) + (-1074 + (j : Int)) + 1074).toNat = i + j - LP by unfold LP; omega]
    have e4 : m * n * 2 ^ (i + j) = m * n * 2 ^ (i + j - LP) * 2 ^ LP := by
      rw [Nat.mul_assoc (m * n), ← Nat.pow_add, show i + j - LP + LP = i + j by omega]
    have e5 := rungS_scale 0 (m * n * 2 ^ (i + j - LP)) LP
    rw [Nat.zero_add] at e5
    rw [e4, e5]
  · rw [nearest_lo false (m * n) (LP - (i + j)) _ (by unfold LP at h ⊢; omega)]
    have e5 := rungS_scale (LP - (i + j)) (m * n) (i + j)
    rw [show LP - (i + j) + (i + j) = LP by omega] at e5
    rw [e5]

theorem ofNat_word (f : Nat) : floatOfInt .f64 (f : Int) = double.word false (rungS 0 (f * K)) := by
  have h := nearest_hi (decide ((f : Int) < 0)) (f : Int).natAbs 0 (by omega)
  rw [decide_eq_false (by omega), Int.natAbs_natCast] at h
  have h2 : floatOfInt .f64 (f : Int) = double.nearest (decide ((f : Int) < 0)) (f : Int).natAbs 0 := rfl
  rw [h2, decide_eq_false (by omega), Int.natAbs_natCast, h, show ((0 : Int) + 1074).toNat = LP by unfold LP; omega]
  rfl

theorem two63_fin : rungS 0 (two63 * K) < INF := by decide +kernel
theorem ofNat_fin {f : Nat} (h : f ≤ two63) : rungS 0 (f * K) < INF :=
  Nat.lt_of_le_of_lt (rungS_mono 0 _ _ (Nat.mul_le_mul_right _ h)) two63_fin

/-- the rung of the product of f and the word q -/
def gq (f q : Nat) : Nat := rungS LP (val (rungS 0 (f * K)) * val q)
theorem gq_mono {f F q : Nat} (h : f ≤ F) : gq f q ≤ gq F q :=
  rungS_mono LP _ _ (Nat.mul_le_mul_right _ (val_mono (rungS_mono 0 _ _ (Nat.mul_le_mul_right _ h))))

def top62 : Nat := 4611686018427387904
def chk1 (F s b : Nat) : Bool := match double.div (floatOfInt .f64 (b : Int)) s with
  | some q => decide (q < INF) && (decide (gq F q < INF) && decide (val (gq F q) / K ≤ top62))
  | none => false
def units6 : List Nat := [1, 1000, 1000000, 1000000000, 60000000000, 3600000000000]
def TEN : Nat := 4621819117588971520
def chkRun : Nat → Nat → Nat → Bool
  | 0, _, _ => true
  | n + 1, F, s => units6.all (chk1 (min F two63) s) && chkRun n (F * 10 + 9) ((floatBits .mul .f64 s TEN).getD 0)

theorem run_spec (n : Nat) : ∀ k, chkRun n (10 ^ k - 1) (sc k) = true → ∀ j, j < n → units6.all (chk1 (min (10 ^ (k + j) - 1) two63) (sc (k + j))) = true := by
  induction n with
  | zero => intro k _ j h; omega
  | succ n ih =>
    intro k h j hj
    rw [chkRun, Bool.and_eq_true] at h
    cases j with
    | zero => exact h.1
    | succ j =>
      have h2 := h.2
      have e1 : (10 ^ k - 1) * 10 + 9 = 10 ^ (k + 1) - 1 := by
        have := Nat.pow_pos (n := k) (show 0 < 10 by decide)
        rw [Nat.pow_succ]; omega
      have e2 : (floatBits .mul .f64 (sc k) TEN).getD 0 = sc (k + 1) := rfl
      rw [e1, e2] at h2
      have := ih (k + 1) h2 j (by omega)
      rw [show k + (j + 1) = k + 1 + j by omega]
      exact this

set_option maxRecDepth 100000 in
theorem run_all : chkRun 311 0 4607182418800017408 = true := by decide +kernel
theorem table (k : Nat) (h : k < 311) : units6.all (chk1 (min (10 ^ k - 1) two63) (sc k)) = true := by
  have := run_spec 311 0 run_all k h
  rwa [Nat.zero_add] at this
theorem sc_310 : sc 310 = INF := by decide +kernel
theorem sc_top (k : Nat) : sc (310 + k) = INF := by
  induction k with
  | zero => exact sc_310
  | succ k ih =>
    have : sc (310 + (k + 1)) = (floatBits .mul .f64 (sc (310 + k)) TEN).getD 0 := rfl
    rw [this, ih]
    decide +kernel
theorem pow_top (k : Nat) (h : 310 ≤ k) : min (10 ^ k - 1) two63 = two63 := by
  have h1 : 10 ^ 20 ≤ 10 ^ k := Nat.pow_le_pow_right (by decide) (by omega)
  have h2 : two63 < 10 ^ 20 := by decide +kernel
  omega
theorem table_all (k : Nat) : units6.all (chk1 (min (10 ^ k - 1) two63) (sc k)) = true := by
  rcases Nat.lt_or_ge k 311 with h | h
  · exact table k h
  · have h0 := table 310 (by decide)
    rw [pow_top 310 (by decide), sc_310] at h0
    rw [pow_top k (by omega), show k = 310 + (k - 310) by omega, sc_top]
    exact h0

theorem unit_mem {b : Nat} (h : isUnit b) : b ∈ units6 := by
  rcases h with h | h | h | h | h | h <;> subst h <;> decide

end Fl
open Fl Ieee

/-- the nanoseconds of a fraction, as the model reckons them -/
def vf (f b k : Nat) : Nat := match double.div (floatOfInt .f64 (b : Int)) (sc k) with
  | some q => val (gq f q) / K
  | none => 0

theorem toIntVal_of (p N : Nat) (h : (FloatKind.f64.decode p).toInt .zero = some (N : Int)) (hN : N ≤ 4611686018427387904) : floatToIntVal .f64 p .u64 = some (N : Int) := by
  have h1 : IntKind.u64.min = 0 := rfl
  have h2 : IntKind.u64.max = 18446744073709551615 := by decide +kernel
  unfold floatToIntVal
  rw [h]
  dsimp only
  rw [h1, h2, if_pos ⟨by omega, by omega⟩]
theorem decode_is (r : Nat) (h : r < INF) : (FloatKind.f64.decode r).toInt .zero = some ((val r / K : Nat) : Int) := by
  have h9 := toInt_is r h
  rw [word_pos] at h9
  exact h9
theorem mul_word (f q : Nat) (hf : f ≤ two63) (hq : q < INF) : floatBits .mul .f64 (floatOfInt .f64 (f : Int)) q = some (gq f q) := by
  have hm := mul_pos _ q (ofNat_fin hf) hq
  rw [word_pos q, word_pos (rungS LP _)] at hm
  rw [ofNat_word, mul_eq, hm]
  rfl
theorem vf_some {f b k q : Nat} (hd : double.div (floatOfInt .f64 (b : Int)) (sc k) = some q) : vf f b k = val (gq f q) / K := by
  unfold vf; rw [hd]
theorem chk_some {F s b : Nat} (h : chk1 F s b = true) : ∃ q, double.div (floatOfInt .f64 (b : Int)) s = some q ∧ q < INF ∧ gq F q < INF ∧ val (gq F q) / K ≤ top62 := by
  unfold chk1 at h
  cases hd : double.div (floatOfInt .f64 (b : Int)) s with
  | none => rw [hd] at h; cases h
  | some q =>
    rw [hd] at h
    dsimp only at h
    rw [Bool.and_eq_true, Bool.and_eq_true, decide_eq_true_iff, decide_eq_true_iff, decide_eq_true_iff] at h
    exact ⟨q, rfl, h⟩
theorem vf_reck : Reck vf := by
  intro f b k hf hfk hb
  obtain ⟨q, hd, c1, c2, c3⟩ := chk_some (List.all_eq_true.1 (table_all k) b (unit_mem hb))
  have hF : f ≤ min (10 ^ k - 1) two63 := by omega
  have g1 := gq_mono (q := q) hF
  have g2 : gq f q < INF := Nat.lt_of_le_of_lt g1 c2
  have g3 : val (gq f q) / K ≤ top62 := Nat.le_trans (Nat.div_le_div_right (val_mono g1)) c3
  have hv : vf f b k = val (gq f q) / K := vf_some hd
  rw [hv]
  exact ⟨q, gq f q, (quo_eq _ _).trans hd, mul_word f q hf c1, toIntVal_of _ _ (decode_is _ g2) g3, g3⟩

def exRow (b k : Nat) : Bool := if b % 10 ^ k = 0 then decide (double.div (floatOfInt .f64 (b : Int)) (sc k) = some (floatOfInt .f64 ((b / 10 ^ k : Nat) : Int))) else true
theorem ex_all : (List.range 13).all (fun k => units6.all fun b => exRow b k) = true := by decide +kernel

theorem vf_exact : Exact vf := by
  intro f b k q hb hu hf
  have hp : 0 < 10 ^ k := Nat.pow_pos (by decide)
  have hq : 0 < q := by
    rcases Nat.eq_zero_or_pos q with h | h
    · subst h; rw [Nat.zero_mul] at hb; omega
    · exact h
  have hbig : b ≤ 3600000000000 := by omega
  have hle : 10 ^ k ≤ b := by rw [hb]; exact Nat.le_mul_of_pos_left _ hq
  have hk : k < 13 := by
    rcases Nat.lt_or_ge k 13 with h | h
    · exact h
    · have : 10 ^ 13 ≤ 10 ^ k := Nat.pow_le_pow_right (by decide) h
      omega
  have hrow := List.all_eq_true.1 (List.all_eq_true.1 ex_all k (List.mem_range.2 hk)) b (unit_mem hu)
  unfold exRow at hrow
  rw [if_pos (by rw [hb]; exact Nat.mul_mod_left _ _), decide_eq_true_iff, hb, Nat.mul_div_cancel _ hp, ← hb] at hrow
  unfold vf
  rw [hrow]
  dsimp only
  have hfq : f * q < 3600000000001 := by
    have h1 : f * q ≤ 10 ^ k * q := Nat.mul_le_mul_right _ (Nat.le_of_lt hf)
    rw [Nat.mul_comm (10 ^ k), ← hb] at h1
    omega
  have hBB : 3600000000001 < 2 * B := by decide +kernel
  have hf2 : f < 2 * B := by omega
  have hq2 : q < 2 * B := by
    have : q ≤ b := by rw [hb]; exact Nat.le_mul_of_pos_right _ hp
    omega
  obtain ⟨r1, a1, a2, a3⟩ := exact_val f LP hf2 (by decide)
  obtain ⟨r2, b1, b2, b3⟩ := exact_val q LP hq2 (by decide)
  obtain ⟨r3, c1, c2, c3⟩ := exact_val (f * q) LP (by omega) (by decide)
  have e1 : val (rungS 0 (f * K)) = f * K := by show val (rungS 0 (f * 2 ^ LP)) = f * 2 ^ LP; rw [a3, a2]
  have e2 : val (floatOfInt .f64 (q : Int)) = q * K := by
    rw [ofNat_word, word_pos]; show val (rungS 0 (q * 2 ^ LP)) = q * 2 ^ LP; rw [b3, b2]
  unfold gq
  rw [e1, e2]
  have e3 : f * K * (q * K) = f * q * K * 2 ^ LP := by
    show f * K * (q * K) = f * q * K * K
    rw [Nat.mul_assoc f K, ← Nat.mul_assoc K q, Nat.mul_comm K q, Nat.mul_assoc q, ← Nat.mul_assoc f, ← Nat.mul_assoc (f * q)]
  have e4 := rungS_scale 0 (f * q * K) LP
  rw [Nat.zero_add] at e4
  rw [e3, e4]
  have e5 : val (rungS 0 (f * q * K)) = f * q * K := by show val (rungS 0 (f * q * 2 ^ LP)) = f * q * 2 ^ LP; rw [c3, c2]
  rw [e5, Nat.mul_div_cancel _ K_pos]

end Go.Proofs.YteejjhdfebhagaaDoor
