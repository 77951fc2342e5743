/- Plain laws on the 64-bit floating-point words of the model: exact whole numbers, sums and quotients rounded once, their order; what hours, minutes and seconds come to. No program in sight. -/
import Derived.Laws.FloatArith
namespace Go.Proofs.YteejjhdfebhagaaDoor.Fl
open Ieee

/-- n / g to the nearest, ties to even. -/
def rne (n g : Nat) : Nat := n / g + (decide (g < 2 * (n % g)) || (g == 2 * (n % g) && n / g % 2 == 1)).toNat

theorem rne_if (n g : Nat) : rne n g = n / g + (if g < 2 * (n % g) ∨ (g = 2 * (n % g) ∧ n / g % 2 = 1) then 1 else 0) := by
  unfold rne
  congr 1
  by_cases h : g < 2 * (n % g) ∨ (g = 2 * (n % g) ∧ n / g % 2 = 1)
  · rw [if_pos h]
    have : (decide (g < 2 * (n % g)) || (g == 2 * (n % g) && n / g % 2 == 1)) = true := by simpa using h
    rw [this]; rfl
  · rw [if_neg h]
    have : (decide (g < 2 * (n % g)) || (g == 2 * (n % g) && n / g % 2 == 1)) = false := by
      rw [Bool.eq_false_iff]; simpa using h
    rw [this]; rfl

theorem cut_eq (neg : Bool) (n drop : Nat) : Toward.even.cut neg n drop = rne n (2 ^ drop) := by
  unfold Toward.cut rne
  simp only [Nat.one_shiftLeft]
  by_cases h : drop ≤ n.log2 + 2
  · rw [Nat.min_eq_left h]
  · have h' : n.log2 + 2 ≤ drop := by omega
    rw [Nat.min_eq_right h']
    have h1 : n < 2 ^ (n.log2 + 1) := Nat.lt_log2_self
    have h2 : 2 ^ (n.log2 + 2) = 2 * 2 ^ (n.log2 + 1) := by rw [Nat.pow_succ]; omega
    have h3 : 2 ^ (n.log2 + 2) ≤ 2 ^ drop := Nat.pow_le_pow_right (by omega) h'
    have d1 : n / 2 ^ (n.log2 + 2) = 0 := Nat.div_eq_of_lt (by omega)
    have d2 : n / 2 ^ drop = 0 := Nat.div_eq_of_lt (by omega)
    have m1 : n % 2 ^ (n.log2 + 2) = n := Nat.mod_eq_of_lt (by omega)
    have m2 : n % 2 ^ drop = n := Nat.mod_eq_of_lt (by omega)
    rw [d1, d2, m1, m2]
    have a1 : ¬ 2 ^ (n.log2 + 2) < 2 * n := by omega
    have a2 : ¬ 2 ^ drop < 2 * n := by omega
    simp [a1, a2]

theorem rne_exact (q g : Nat) (hg : 0 < g) : rne (q * g) g = q := by
  rw [rne_if, Nat.mul_mod_left, Nat.mul_div_cancel _ hg, if_neg (by omega)]
  rfl

theorem rne_bounds (n g : Nat) (hg : 0 < g) : 2 * (rne n g * g) ≤ 2 * n + g ∧ 2 * n ≤ 2 * (rne n g * g) + g := by
  rw [rne_if]
  have h := Nat.div_add_mod n g
  have hm := Nat.mod_lt n hg
  rw [Nat.mul_comm] at h
  generalize n / g = q at *
  generalize n % g = r at *
  split
  · rename_i hc
    rw [Nat.add_mul]
    omega
  · rename_i hc
    rw [Nat.add_zero]
    omega

theorem rne_mono (n n' g : Nat) (hg : 0 < g) (h : n ≤ n') : rne n g ≤ rne n' g := by
  rw [rne_if, rne_if]
  have e1 := Nat.div_add_mod n g
  have e2 := Nat.div_add_mod n' g
  have hm1 := Nat.mod_lt n hg
  have hm2 := Nat.mod_lt n' hg
  have hq : n / g ≤ n' / g := Nat.div_le_div_right h
  rw [Nat.mul_comm] at e1 e2
  generalize n / g = q at *
  generalize n % g = r at *
  generalize n' / g = q' at *
  generalize n' % g = r' at *
  by_cases hlt : q < q'
  · split <;> split <;> omega
  · have : q = q' := by omega
    subst this
    have hr : r ≤ r' := by omega
    split
    · rename_i hc
      split
      · omega
      · rename_i hc2
        exfalso
        omega
    · split <;> omega

theorem rne_scale (n g k : Nat) (hk : 0 < k) : rne (n * k) (g * k) = rne n g := by
  rw [rne_if, rne_if, Nat.mul_div_mul_right _ _ hk, Nat.mul_mod_mul_right]
  have a1 : (g * k < 2 * (n % g * k)) ↔ (g < 2 * (n % g)) := by
    rw [← Nat.mul_assoc]; exact Nat.mul_lt_mul_right hk
  have a2 : (g * k = 2 * (n % g * k)) ↔ (g = 2 * (n % g)) := by
    rw [← Nat.mul_assoc]
    exact ⟨fun h => Nat.eq_of_mul_eq_mul_right hk h, fun h => congrArg (· * k) h⟩
  simp only [a1, a2]

def INF : Nat := 2047 * 2 ^ 52
def B : Nat := 2 ^ 52

theorem binade_eq : double.binade = B := rfl
theorem infRung_eq : double.infRung = INF := by decide +kernel
theorem signWeight_eq : double.signWeight = 2 ^ 63 := by decide +kernel
theorem leastPlace_eq : double.leastPlace = -1074 := by decide +kernel
theorem fractionBits_eq : double.fractionBits = 52 := rfl

/-- the place of the last digit kept, counted from the least one, of 'mag / 2 ^ s' units -/
def ex (s mag : Nat) : Nat := mag.log2 - (s + 52)

/-- the rung of 'mag / 2 ^ s' units of the least place -/
def rungS (s mag : Nat) : Nat := min (ex s mag * B + rne mag (2 ^ (ex s mag + s))) INF

theorem word_zero (neg : Bool) : double.word neg 0 = double.word neg (rungS 0 0) := by
  cases neg <;> decide +kernel

theorem nearest_hi (neg : Bool) (mag : Nat) (place : Int) (h : -1074 ≤ place) :
    double.nearest neg mag place = double.word neg (rungS 0 (mag * 2 ^ (place + 1074).toNat)) := by
  obtain ⟨k, hk⟩ : ∃ k : Nat, place = (k : Int) - 1074 := ⟨(place + 1074).toNat, by omega⟩
  subst hk
  unfold Format.nearest
  by_cases h0 : mag = 0
  · subst h0; simp only [if_true, Nat.zero_mul]; exact word_zero neg
  · rw [if_neg h0]
    simp only [fractionBits_eq, leastPlace_eq, infRung_eq, binade_eq]
    refine congrArg (double.word neg) ?_
    unfold rungS
    have hN : (mag * 2 ^ ((k : Int) - 1074 + 1074).toNat) = mag * 2 ^ k := by rw [show ((k : Int) - 1074 + 1074).toNat = k by omega]
    rw [hN]
    have hl : (mag * 2 ^ k).log2 = mag.log2 + k := by
      rw [Nat.log2_eq_iff (by have := Nat.two_pow_pos k; exact Nat.mul_ne_zero h0 (by omega))]
      have a1 := Nat.log2_self_le h0
      have a2 : mag < 2 ^ (mag.log2 + 1) := Nat.lt_log2_self
      constructor
      · rw [Nat.pow_add]; exact Nat.mul_le_mul_right _ a1
      · rw [show mag.log2 + k + 1 = (mag.log2 + 1) + k by omega, Nat.pow_add]
        exact Nat.mul_lt_mul_of_pos_right a2 (Nat.two_pow_pos k)
    have hex : ex 0 (mag * 2 ^ k) = mag.log2 + k - 52 := by unfold ex; rw [hl, Nat.zero_add]
    rw [hex]
    have hlast : (max ((k : Int) - 1074 + (mag.log2 : Int) - ((52 : Nat) : Int)) (-1074)) = ((mag.log2 + k - 52 : Nat) : Int) - 1074 := by omega
    rw [hlast, cut_eq]
    have h1 : (((mag.log2 + k - 52 : Nat) : Int) - 1074 - -1074).toNat = mag.log2 + k - 52 := by omega
    rw [h1]
    refine congrArg (fun z => min ((mag.log2 + k - 52) * B + z) INF) ?_
    generalize he : mag.log2 + k - 52 = e at *
    rw [Nat.shiftLeft_eq, Nat.add_zero]
    by_cases hke : e ≤ k
    · have b1 : ((k : Int) - 1074 - ((e : Int) - 1074)).toNat = k - e := by omega
      have b2 : ((e : Int) - 1074 - ((k : Int) - 1074)).toNat = 0 := by omega
      rw [b1, b2]
      have := rne_scale (mag * 2 ^ (k - e)) (2 ^ 0) (2 ^ e) (Nat.two_pow_pos e)
      rw [← this, Nat.mul_assoc, ← Nat.pow_add, ← Nat.pow_add]
      rw [show k - e + e = k by omega, show 0 + e = e by omega]
    · have b1 : ((k : Int) - 1074 - ((e : Int) - 1074)).toNat = 0 := by omega
      have b2 : ((e : Int) - 1074 - ((k : Int) - 1074)).toNat = e - k := by omega
      rw [b1, b2, Nat.pow_zero, Nat.mul_one]
      have := rne_scale mag (2 ^ (e - k)) (2 ^ k) (Nat.two_pow_pos k)
      rw [← this, ← Nat.pow_add]
      rw [show e - k + k = e by omega]

theorem nearest_lo (neg : Bool) (mag s : Nat) (place : Int) (h : place = -1074 - (s : Int)) :
    double.nearest neg mag place = double.word neg (rungS s mag) := by
  subst h
  unfold Format.nearest
  by_cases h0 : mag = 0
  · subst h0; simp only [if_true]
    refine congrArg (double.word neg) ?_
    unfold rungS ex
    have h2 : Nat.log2 0 = 0 := by decide +kernel
    have := rne_exact 0 (2 ^ (Nat.log2 0 - (s + 52) + s)) (Nat.two_pow_pos _)
    rw [Nat.zero_mul] at this
    rw [this, h2, show 0 - (s + 52) = 0 by omega, Nat.zero_mul]
    rfl
  · rw [if_neg h0]
    simp only [fractionBits_eq, leastPlace_eq, infRung_eq, binade_eq]
    refine congrArg (double.word neg) ?_
    unfold rungS
    generalize he : ex s mag = e
    have he' : e = mag.log2 - (s + 52) := by rw [← he]; rfl
    have hlast : (max (-1074 - (s : Int) + (mag.log2 : Int) - ((52 : Nat) : Int)) (-1074)) = (e : Int) - 1074 := by omega
    rw [hlast, cut_eq]
    have h1 : ((e : Int) - 1074 - -1074).toNat = e := by omega
    rw [h1]
    have b1 : (-1074 - (s : Int) - ((e : Int) - 1074)).toNat = 0 := by omega
    have b2 : ((e : Int) - 1074 - (-1074 - (s : Int))).toNat = e + s := by omega
    rw [b1, b2]
    simp

theorem log2_mono {a b : Nat} (h : a ≤ b) : a.log2 ≤ b.log2 := by
  by_cases h0 : a = 0
  · subst h0; rw [show Nat.log2 0 = 0 by decide +kernel]; omega
  · rw [Nat.le_log2 (by omega)]
    exact Nat.le_trans (Nat.log2_self_le h0) h

theorem rungS_zero (s : Nat) : rungS s 0 = 0 := by
  unfold rungS
  have h2 : Nat.log2 0 = 0 := by decide +kernel
  have : rne 0 (2 ^ (ex s 0 + s)) = 0 := by
    have := rne_exact 0 (2 ^ (ex s 0 + s)) (Nat.two_pow_pos _); rwa [Nat.zero_mul] at this
  have h3 : ex s 0 = 0 := by unfold ex; omega
  rw [this, h3, Nat.zero_mul]
  exact Nat.zero_min _

theorem two_B : 2 * B = 2 ^ 53 := by decide +kernel
theorem B_eq : B = 2 ^ 52 := by decide +kernel
theorem B_pos : 0 < B := by decide +kernel

theorem rne_le (s mag : Nat) : rne mag (2 ^ (ex s mag + s)) ≤ 2 * B := by
  have u1 : mag < 2 ^ (mag.log2 + 1) := Nat.lt_log2_self
  have hle : mag ≤ (2 * B) * 2 ^ (ex s mag + s) := by
    have : 2 ^ (mag.log2 + 1) ≤ (2 * B) * 2 ^ (ex s mag + s) := by
      rw [two_B, ← Nat.pow_add]
      exact Nat.pow_le_pow_right (by decide) (by unfold ex; omega)
    exact Nat.le_of_lt (Nat.lt_of_lt_of_le u1 this)
  have := rne_mono mag _ (2 ^ (ex s mag + s)) (Nat.two_pow_pos _) hle
  rwa [rne_exact _ _ (Nat.two_pow_pos _)] at this

theorem le_rne (s mag : Nat) (h0 : mag ≠ 0) (h : s + 52 ≤ mag.log2) : B ≤ rne mag (2 ^ (ex s mag + s)) := by
  have l1 : 2 ^ mag.log2 ≤ mag := Nat.log2_self_le h0
  have hle : B * 2 ^ (ex s mag + s) ≤ mag := by
    refine Nat.le_trans ?_ l1
    rw [B_eq, ← Nat.pow_add]
    exact Nat.pow_le_pow_right (by decide) (by unfold ex; omega)
  have := rne_mono _ mag (2 ^ (ex s mag + s)) (Nat.two_pow_pos _) hle
  rwa [rne_exact _ _ (Nat.two_pow_pos _)] at this

theorem min_mono {a b c : Nat} (h : a ≤ b) : min a c ≤ min b c := by
  rw [Nat.le_min]
  exact ⟨Nat.le_trans (Nat.min_le_left _ _) h, Nat.min_le_right _ _⟩

theorem rungS_mono (s mag mag' : Nat) (h : mag ≤ mag') : rungS s mag ≤ rungS s mag' := by
  by_cases hm0 : mag = 0
  · subst hm0
    rw [rungS_zero]; exact Nat.zero_le _
  unfold rungS
  refine min_mono ?_
  have hl := log2_mono h
  have he : ex s mag ≤ ex s mag' := by unfold ex; omega
  by_cases heq : ex s mag = ex s mag'
  · rw [heq]
    exact Nat.add_le_add_left (rne_mono mag mag' (2 ^ (ex s mag' + s)) (Nat.two_pow_pos _) h) _
  · have hlt : ex s mag + 1 ≤ ex s mag' := by omega
    have r1 := rne_le s mag
    have r2 := le_rne s mag' (by omega) (by unfold ex at hlt; omega)
    have h3 : (ex s mag + 1) * B ≤ ex s mag' * B := Nat.mul_le_mul_right _ hlt
    rw [Nat.add_mul, Nat.one_mul] at h3
    generalize ex s mag * B = x at *
    generalize ex s mag' * B = y at *
    generalize rne mag _ = p at *
    generalize rne mag' _ = q at *
    generalize B = b at *
    omega

theorem log2_mul_pow (mag k : Nat) (h0 : mag ≠ 0) : (mag * 2 ^ k).log2 = mag.log2 + k := by
  rw [Nat.log2_eq_iff (Nat.mul_ne_zero h0 (Nat.ne_of_gt (Nat.two_pow_pos k)))]
  have a1 := Nat.log2_self_le h0
  have a2 : mag < 2 ^ (mag.log2 + 1) := Nat.lt_log2_self
  constructor
  · rw [Nat.pow_add]; exact Nat.mul_le_mul_right _ a1
  · rw [show mag.log2 + k + 1 = (mag.log2 + 1) + k by omega, Nat.pow_add]
    exact Nat.mul_lt_mul_of_pos_right a2 (Nat.two_pow_pos k)

theorem rungS_scale (s mag k : Nat) : rungS (s + k) (mag * 2 ^ k) = rungS s mag := by
  by_cases h0 : mag = 0
  · subst h0
    rw [Nat.zero_mul, rungS_zero, rungS_zero]
  · have hl := log2_mul_pow mag k h0
    have he : ex (s + k) (mag * 2 ^ k) = ex s mag := by unfold ex; rw [hl]; omega
    unfold rungS
    rw [he]
    have := rne_scale mag (2 ^ (ex s mag + s)) (2 ^ k) (Nat.two_pow_pos k)
    rw [← Nat.pow_add, Nat.add_assoc] at this
    rw [this]

/-- what a rung stands for, in units of the least place -/
def val (r : Nat) : Nat := if r < B then r else (B + r % B) * 2 ^ (r / B - 1)

theorem val_lo {r : Nat} (h : r < B) : val r = r := by unfold val; rw [if_pos h]
theorem val_hi (k f : Nat) (hf : f < B) : val ((k + 1) * B + f) = (B + f) * 2 ^ k := by
  unfold val
  have h1 : ¬ (k + 1) * B + f < B := by
    rw [Nat.add_mul, Nat.one_mul]; omega
  rw [if_neg h1]
  have h2 : ((k + 1) * B + f) % B = f := by
    rw [Nat.mul_comm, Nat.mul_add_mod]; exact Nat.mod_eq_of_lt hf
  have h3 : ((k + 1) * B + f) / B = k + 1 := by
    rw [Nat.mul_comm, Nat.mul_add_div B_pos, Nat.div_eq_of_lt hf, Nat.add_zero]
  rw [h2, h3, Nat.add_sub_cancel]

theorem rung_split (r : Nat) (h : B ≤ r) : ∃ k f, f < B ∧ r = (k + 1) * B + f := by
  have hq : 1 ≤ r / B := (Nat.le_div_iff_mul_le B_pos).2 (by rw [Nat.one_mul]; exact h)
  refine ⟨r / B - 1, r % B, Nat.mod_lt _ B_pos, ?_⟩
  rw [Nat.sub_add_cancel hq, Nat.mul_comm]
  exact (Nat.div_add_mod r B).symm

theorem rungS_val (r : Nat) (h : r < INF) : rungS 0 (val r) = r := by
  by_cases hr : r < B
  · rw [val_lo hr]
    unfold rungS
    have he : ex 0 r = 0 := by
      unfold ex
      by_cases h0 : r = 0
      · rw [h0]; decide +kernel
      · have := (Nat.log2_lt h0 (k := 52)).2 (by rw [← B_eq]; exact hr)
        omega
    rw [he]
    have := rne_exact r 1 (by decide)
    rw [Nat.mul_one] at this
    rw [Nat.zero_mul, Nat.zero_add, Nat.add_zero, Nat.pow_zero, this]
    exact Nat.min_eq_left (Nat.le_of_lt h)
  · obtain ⟨k, f, hf, rfl⟩ := rung_split r (Nat.le_of_not_lt hr)
    rw [val_hi k f hf]
    have hl : (B + f).log2 = 52 := by
      rw [Nat.log2_eq_iff (Nat.ne_of_gt (Nat.lt_of_lt_of_le B_pos (Nat.le_add_right _ _)))]
      have e := two_B
      rw [← B_eq, ← e]
      exact ⟨Nat.le_add_right _ _, by rw [Nat.two_mul]; exact Nat.add_lt_add_left hf _⟩
    have he : ex 0 ((B + f) * 2 ^ k) = k := by
      unfold ex
      rw [log2_mul_pow _ _ (Nat.ne_of_gt (Nat.lt_of_lt_of_le B_pos (Nat.le_add_right _ _))), hl]; omega
    unfold rungS
    rw [he, Nat.add_zero, rne_exact _ _ (Nat.two_pow_pos k)]
    rw [Nat.add_mul, Nat.one_mul] at h ⊢
    rw [← Nat.add_assoc]
    exact Nat.min_eq_left (Nat.le_of_lt h)


/-- the unit of 1 in units of the least place -/
def LP : Nat := 1074
def K : Nat := 2 ^ LP

theorem K_pos : 0 < K := Nat.two_pow_pos _

theorem INF_lt : INF < 2 ^ 63 := by decide +kernel
theorem B_lt_INF : B < INF := by decide +kernel

def sv (neg : Bool) (n : Nat) : Int := if neg then -(n : Int) else n
theorem sv_zero (b : Bool) : sv b 0 = 0 := by cases b <;> rfl

theorem word_div (neg : Bool) (r : Nat) (h : r < INF) : (double.word neg r / double.signWeight % 2 == 1) = neg := by
  have hl : r < 2 ^ 63 := Nat.lt_trans h INF_lt
  unfold Format.word
  rw [signWeight_eq]
  cases neg
  · simp only [Bool.false_eq_true, if_false]
    rw [Nat.div_eq_of_lt hl]; rfl
  · simp only [if_true]
    rw [Nat.add_div_left _ (Nat.two_pow_pos 63), Nat.div_eq_of_lt hl]; rfl

theorem word_mod (neg : Bool) (r : Nat) (h : r < INF) : double.word neg r % double.signWeight = r := by
  have hl : r < 2 ^ 63 := Nat.lt_trans h INF_lt
  unfold Format.word
  rw [signWeight_eq]
  cases neg
  · simp only [Bool.false_eq_true, if_false]
    exact Nat.mod_eq_of_lt hl
  · simp only [if_true]
    rw [Nat.add_mod_left]
    exact Nat.mod_eq_of_lt hl

theorem read_lo (neg : Bool) (r : Nat) (h : r < B) : double.read (double.word neg r) = .number neg r (-1074) := by
  have hI := Nat.lt_trans h B_lt_INF
  unfold Format.read
  simp only [word_div neg r hI, word_mod neg r hI, binade_eq, leastPlace_eq]
  rw [if_pos h]

theorem read_hi (neg : Bool) (k f : Nat) (hf : f < B) (h : (k + 1) * B + f < INF) :
    double.read (double.word neg ((k + 1) * B + f)) = .number neg (B + f) (-1074 + (k : Int)) := by
  unfold Format.read
  simp only [word_div neg _ h, word_mod neg _ h, binade_eq, leastPlace_eq, infRung_eq]
  have h1 : ¬ (k + 1) * B + f < B := by
    rw [Nat.add_mul, Nat.one_mul]; omega
  rw [if_neg h1, if_pos h]
  have h2 : ((k + 1) * B + f) % B = f := by
    rw [Nat.mul_comm, Nat.mul_add_mod]; exact Nat.mod_eq_of_lt hf
  have h3 : ((k + 1) * B + f) / B = k + 1 := by
    rw [Nat.mul_comm, Nat.mul_add_div B_pos, Nat.div_eq_of_lt hf, Nat.add_zero]
  rw [h2, h3, Nat.add_sub_cancel]

/-- a word of a finite rung read: its number's digits and place -/
theorem read_word (neg : Bool) (r : Nat) (h : r < INF) :
    ∃ m k : Nat, double.read (double.word neg r) = .number neg m (-1074 + (k : Int)) ∧ val r = m * 2 ^ k := by
  by_cases hr : r < B
  · exact ⟨r, 0, read_lo neg r hr, by rw [val_lo hr, Nat.pow_zero, Nat.mul_one]⟩
  · obtain ⟨k, f, hf, rfl⟩ := rung_split r (Nat.le_of_not_lt hr)
    exact ⟨B + f, k, read_hi neg k f hf h, val_hi k f hf⟩

/-- The word x is finite and stands for v units of the least place. -/
def Is (x : Nat) (v : Int) : Prop := ∃ neg r, r < INF ∧ x = double.word neg r ∧ v = sv neg (val r)

theorem signed_eq (neg : Bool) (m up : Nat) : signed neg m up = sv neg (m * 2 ^ up) := by
  unfold signed sv; rw [Nat.shiftLeft_eq]

theorem sv_mul (neg : Bool) (a b : Nat) : sv neg (a * b) = sv neg a * (b : Int) := by
  unfold sv; cases neg <;> simp [Int.natCast_mul, Int.neg_mul]

theorem compare_mul (a b : Int) (c : Nat) (hc : 0 < c) : compare (a * c) (b * c) = compare a b := by
  have hc' : (0 : Int) < c := by omega
  rcases Int.lt_trichotomy a b with h | h | h
  · rw [Int.compare_eq_lt.2 h, Int.compare_eq_lt.2 (Int.mul_lt_mul_of_pos_right h hc')]
  · subst h; rw [Int.compare_eq_eq.2 rfl, Int.compare_eq_eq.2 rfl]
  · rw [Int.compare_eq_gt.2 h, Int.compare_eq_gt.2 (Int.mul_lt_mul_of_pos_right h hc')]

theorem sv_place (neg : Bool) (m k c : Nat) (h : c ≤ k) : sv neg (m * 2 ^ (k - c)) * ((2 ^ c : Nat) : Int) = sv neg (m * 2 ^ k) := by
  rw [← sv_mul, Nat.mul_assoc, ← Nat.pow_add, Nat.sub_add_cancel h]

theorem order_is {x y : Nat} {v w : Int} (hx : Is x v) (hy : Is y w) : double.order x y = some (compare v w) := by
  obtain ⟨s, a, ha, rfl, rfl⟩ := hx
  obtain ⟨t, b, hb, rfl, rfl⟩ := hy
  obtain ⟨m, i, e1, v1⟩ := read_word s a ha
  obtain ⟨n, j, e2, v2⟩ := read_word t b hb
  unfold Format.order
  rw [e1, e2]
  unfold Datum.order
  simp only [signed_eq]
  rw [v1, v2]
  congr 1
  have hmin : min (-1074 + (i : Int)) (-1074 + (j : Int)) = -1074 + ((min i j : Nat) : Int) := by omega
  rw [hmin]
  have h1 : (-1074 + (i : Int) - (-1074 + ((min i j : Nat) : Int))).toNat = i - min i j := by omega
  have h2 : (-1074 + (j : Int) - (-1074 + ((min i j : Nat) : Int))).toNat = j - min i j := by omega
  rw [h1, h2, ← compare_mul _ _ (2 ^ min i j) (Nat.two_pow_pos _), sv_place _ _ _ _ (Nat.min_le_left _ _), sv_place _ _ _ _ (Nat.min_le_right _ _)]

/-- v rounded to the nearest that the format has -/
def rd (v : Int) : Int := sv (decide (v < 0)) (val (rungS 0 v.natAbs))

theorem sv_abs (neg : Bool) (n : Nat) : (sv neg n).natAbs = n := by
  unfold sv; cases neg <;> simp

theorem val_zero : val 0 = 0 := val_lo B_pos

theorem nearest_is (neg : Bool) (mag : Nat) (k : Nat) (hN : rungS 0 (mag * 2 ^ k) < INF) :
    Is (double.nearest neg mag (-1074 + (k : Int))) (sv neg (val (rungS 0 (mag * 2 ^ k)))) := by
  have h := nearest_hi neg mag (-1074 + (k : Int)) (by omega)
  rw [show (-1074 + (k : Int) + 1074).toNat = k by omega] at h
  exact ⟨neg, _, hN, h, rfl⟩

theorem add_is {x y : Nat} {v w : Int} (hx : Is x v) (hy : Is y w) (hN : rungS 0 (v + w).natAbs < INF) :
    ∃ z, double.add x y = some z ∧ Is z (rd (v + w)) := by
  obtain ⟨s, a, ha, rfl, rfl⟩ := hx
  obtain ⟨t, b, hb, rfl, rfl⟩ := hy
  obtain ⟨m, i, e1, v1⟩ := read_word s a ha
  obtain ⟨n, j, e2, v2⟩ := read_word t b hb
  unfold Format.add
  rw [e1, e2]
  unfold Datum.sum
  simp only [signed_eq]
  have hmin : min (-1074 + (i : Int)) (-1074 + (j : Int)) = -1074 + ((min i j : Nat) : Int) := by omega
  rw [hmin]
  have h1 : (-1074 + (i : Int) - (-1074 + ((min i j : Nat) : Int))).toNat = i - min i j := by omega
  have h2 : (-1074 + (j : Int) - (-1074 + ((min i j : Nat) : Int))).toNat = j - min i j := by omega
  rw [h1, h2]
  have p1 := sv_place s m i (min i j) (Nat.min_le_left _ _)
  have p2 := sv_place t n j (min i j) (Nat.min_le_right _ _)
  rw [← v1] at p1
  rw [← v2] at p2
  generalize hT : sv s (m * 2 ^ (i - min i j)) + sv t (n * 2 ^ (j - min i j)) = T
  have hvw : sv s (val a) + sv t (val b) = T * ((2 ^ min i j : Nat) : Int) := by
    rw [← p1, ← p2, ← hT, Int.add_mul]
  have hab : (sv s (val a) + sv t (val b)).natAbs = T.natAbs * 2 ^ min i j := by
    rw [hvw, Int.natAbs_mul, Int.natAbs_natCast]
  refine ⟨_, rfl, ?_⟩
  rw [hab] at hN
  have hr := nearest_is (if T = 0 then s && t else decide (T < 0)) T.natAbs (min i j) hN
  unfold rd
  rw [hab]
  show Is (double.nearest _ _ _) _
  by_cases h0 : T = 0
  · subst h0
    have hz : rungS 0 (Int.natAbs 0 * 2 ^ min i j) = 0 := by
      rw [Int.natAbs_zero, Nat.zero_mul]; exact rungS_zero 0
    rw [hz, val_zero] at hr ⊢
    rw [sv_zero] at hr ⊢
    exact hr
  · rw [if_neg h0] at hr ⊢
    have hs : decide (sv s (val a) + sv t (val b) < 0) = decide (T < 0) := by
      rw [hvw]
      have hp : (0 : Int) < ((2 ^ min i j : Nat) : Int) := by
        have := Nat.two_pow_pos (min i j); omega
      rw [decide_eq_decide]
      constructor
      · intro h
        rcases Int.lt_or_le T 0 with h' | h'
        · exact h'
        · exact absurd (Int.mul_nonneg h' (Int.le_of_lt hp)) (by omega)
      · intro h
        exact Int.mul_neg_of_neg_of_pos h hp
    rw [hs]
    exact hr

theorem of_int_is (n : Int) (hN : rungS 0 (n.natAbs * K) < INF) : Is (double.write (.number (n < 0) n.natAbs 0)) (sv (decide (n < 0)) (val (rungS 0 (n.natAbs * K)))) := by
  have h := nearest_is (decide (n < 0)) n.natAbs LP hN
  exact h

theorem val_mono {a b : Nat} (h : a ≤ b) : val a ≤ val b := by
  by_cases hb : b < B
  · rw [val_lo hb, val_lo (Nat.lt_of_le_of_lt h hb)]; exact h
  · obtain ⟨k, f, hf, rfl⟩ := rung_split b (Nat.le_of_not_lt hb)
    rw [val_hi k f hf]
    by_cases ha : a < B
    · rw [val_lo ha]
      have h1 : B * 1 ≤ (B + f) * 2 ^ k := Nat.mul_le_mul (Nat.le_add_right _ _) (Nat.two_pow_pos k)
      rw [Nat.mul_one] at h1
      exact Nat.le_trans (Nat.le_of_lt ha) h1
    · obtain ⟨i, g, hg, rfl⟩ := rung_split a (Nat.le_of_not_lt ha)
      rw [val_hi i g hg]
      have hik : i ≤ k := by
        rcases Nat.lt_or_ge k i with hlt | hge
        · exfalso
          have h3 : (k + 1 + 1) * B ≤ (i + 1) * B := Nat.mul_le_mul_right _ (by omega)
          rw [Nat.add_mul (k + 1), Nat.one_mul] at h3
          generalize (k + 1) * B = x at *
          generalize (i + 1) * B = y at *
          generalize B = bb at *
          omega
        · exact hge
      by_cases he : i = k
      · subst he
        refine Nat.mul_le_mul_right _ ?_
        have := Nat.le_of_add_le_add_left h
        exact Nat.add_le_add_left this _
      · have h4 : (B + g) * 2 ^ i ≤ (2 * B) * 2 ^ i := Nat.mul_le_mul_right _ (by rw [Nat.two_mul]; exact Nat.add_le_add_left (Nat.le_of_lt hg) _)
        have h5 : (2 * B) * 2 ^ i = B * 2 ^ (i + 1) := by rw [Nat.pow_succ, Nat.mul_comm 2 B, Nat.mul_assoc, Nat.mul_comm 2 (2 ^ i)]
        have h6 : B * 2 ^ (i + 1) ≤ (B + f) * 2 ^ k := Nat.mul_le_mul (Nat.le_add_right _ _) (Nat.pow_le_pow_right (by decide) (by omega))
        exact Nat.le_trans h4 (h5 ▸ h6)

/-- 'm * 2 ^ k' with at most 53 digits is a number of the format -/
theorem exact_val (m k : Nat) (hm : m < 2 * B) (hk : k ≤ 2000) : ∃ r, r < INF ∧ val r = m * 2 ^ k ∧ rungS 0 (m * 2 ^ k) = r := by
  have key : ∃ r, r < INF ∧ val r = m * 2 ^ k := by
    by_cases h0 : m = 0
    · subst h0
      exact ⟨0, by decide +kernel, by rw [val_zero, Nat.zero_mul]⟩
    · have hl : m.log2 < 53 := (Nat.log2_lt h0).2 (by rw [← two_B]; exact hm)
      by_cases hs : m.log2 + k < 52
      · have hlt : m * 2 ^ k < B := by
          have h1 : (m * 2 ^ k).log2 < 52 := by rw [log2_mul_pow m k h0]; exact hs
          rw [B_eq]
          exact (Nat.log2_lt (Nat.mul_ne_zero h0 (Nat.ne_of_gt (Nat.two_pow_pos k)))).1 h1
        exact ⟨m * 2 ^ k, Nat.lt_trans hlt B_lt_INF, val_lo hlt⟩
      · obtain ⟨c, hc⟩ : ∃ c, c = 52 - m.log2 := ⟨_, rfl⟩
        have hlc : (m * 2 ^ c).log2 = 52 := by rw [log2_mul_pow m c h0]; omega
        have hne : m * 2 ^ c ≠ 0 := Nat.mul_ne_zero h0 (Nat.ne_of_gt (Nat.two_pow_pos c))
        have h1 : B ≤ m * 2 ^ c := by
          have := Nat.log2_self_le hne
          rw [hlc] at this
          rw [B_eq]; exact this
        have h2 : m * 2 ^ c < 2 * B := by
          have : m * 2 ^ c < 2 ^ ((m * 2 ^ c).log2 + 1) := Nat.lt_log2_self
          rw [hlc] at this
          rw [two_B]; exact this
        obtain ⟨f, hf⟩ : ∃ f, m * 2 ^ c = B + f := ⟨m * 2 ^ c - B, (Nat.add_sub_cancel' h1).symm⟩
        have hfB : f < B := by rw [hf, Nat.two_mul] at h2; exact Nat.lt_of_add_lt_add_left h2
        refine ⟨(k - c + 1) * B + f, ?_, ?_⟩
        · have h3 : (k - c + 1) * B + f < (k - c + 2) * B := by
            rw [show k - c + 2 = (k - c + 1) + 1 by omega, Nat.add_mul (k - c + 1) 1 B, Nat.one_mul]
            exact Nat.add_lt_add_left hfB _
          have h4 : (k - c + 2) * B ≤ 2047 * B := Nat.mul_le_mul_right _ (by omega)
          exact Nat.lt_of_lt_of_le h3 h4
        · rw [val_hi _ _ hfB, ← hf, Nat.mul_assoc, ← Nat.pow_add, show c + (k - c) = k by omega]
  obtain ⟨r, h1, h2⟩ := key
  exact ⟨r, h1, h2, by rw [← h2]; exact rungS_val r h1⟩

theorem exact_int (n : Int) (h : n.natAbs < 2 * B) : Is (double.write (.number (n < 0) n.natAbs 0)) (n * K) := by
  obtain ⟨r, h1, h2, h3⟩ := exact_val n.natAbs LP h (by decide)
  have hN : rungS 0 (n.natAbs * K) < INF := by
    show rungS 0 (n.natAbs * 2 ^ LP) < INF
    rw [h3]; exact h1
  have e := of_int_is n hN
  have hv : val (rungS 0 (n.natAbs * K)) = n.natAbs * K := by
    show val (rungS 0 (n.natAbs * 2 ^ LP)) = n.natAbs * 2 ^ LP
    rw [h3]; exact h2
  rw [hv] at e
  have hs : sv (decide (n < 0)) (n.natAbs * K) = n * (K : Int) := by
    have e2 : sv (decide (n < 0)) n.natAbs = n := by
      by_cases hn : n < 0
      · rw [decide_eq_true hn]; simp only [sv, if_true]; omega
      · rw [decide_eq_false hn]; simp only [sv, Bool.false_eq_true, if_false]; omega
    rw [sv_mul, e2]
  rw [hs] at e
  exact e

theorem rd_exact (m k : Nat) (neg : Bool) (hm : m < 2 * B) (hk : k ≤ 2000) : rd (sv neg (m * 2 ^ k)) = sv neg (m * 2 ^ k) := by
  obtain ⟨r, h1, h2, h3⟩ := exact_val m k hm hk
  unfold rd
  rw [sv_abs, h3, h2]
  generalize m * 2 ^ k = t
  cases neg
  · have : decide (sv false t < 0) = false := by simp [sv]
    rw [this]
  · by_cases h0 : t = 0
    · subst h0; rw [sv_zero, sv_zero]
    · have : decide (sv true t < 0) = true := by simp [sv]; omega
      rw [this]

/-- Rounding keeps the order. -/
theorem rd_mono {v w : Int} (h : v ≤ w) : rd v ≤ rd w := by
  have key : ∀ a b : Nat, a ≤ b → val (rungS 0 a) ≤ val (rungS 0 b) := fun a b hab => val_mono (rungS_mono 0 a b hab)
  unfold rd
  by_cases hv : v < 0
  · rw [decide_eq_true hv]
    by_cases hw : w < 0
    · rw [decide_eq_true hw]
      have := key w.natAbs v.natAbs (by omega)
      simp only [sv, if_true]; omega
    · rw [decide_eq_false hw]
      simp only [sv, if_true, Bool.false_eq_true, if_false]; omega
  · have hw : ¬ w < 0 := by omega
    rw [decide_eq_false hv, decide_eq_false hw]
    have := key v.natAbs w.natAbs (by omega)
    simp only [sv, Bool.false_eq_true, if_false]; omega

theorem rd_neg (v : Int) : rd (-v) = -rd v := by
  unfold rd
  rw [Int.natAbs_neg]
  rcases Int.lt_trichotomy v 0 with h | h | h
  · rw [decide_eq_true h, decide_eq_false (show ¬ -v < 0 by omega)]
    simp only [sv, if_true, Bool.false_eq_true, if_false]; omega
  · subst h
    have : val (rungS 0 (Int.natAbs 0)) = 0 := by rw [Int.natAbs_zero, rungS_zero, val_zero]
    rw [this, sv_zero, sv_zero]; rfl
  · rw [decide_eq_false (show ¬ v < 0 by omega), decide_eq_true (show -v < 0 by omega)]
    simp only [sv, if_true, Bool.false_eq_true, if_false]

theorem neg_is {x : Nat} {v : Int} (h : Is x v) : Is (x ^^^ 2 ^ 63) (-v) := by
  obtain ⟨s, r, hr, rfl, rfl⟩ := h
  have hl : r < 2 ^ 63 := Nat.lt_trans hr INF_lt
  refine ⟨!s, r, hr, ?_, ?_⟩
  · have e : 2 ^ 63 + r = r ^^^ 2 ^ 63 := by
      apply Nat.eq_of_testBit_eq
      intro i
      have h1 := Nat.testBit_two_pow_mul_add 1 hl i
      rw [Nat.mul_one] at h1
      rw [h1, Nat.testBit_xor, Nat.testBit_two_pow]
      by_cases hi : i < 63
      · rw [if_pos hi, decide_eq_false (by omega)]; simp
      · rw [if_neg hi, Nat.testBit_lt_two_pow (Nat.lt_of_lt_of_le hl (Nat.pow_le_pow_right (by decide) (by omega)))]
        by_cases h63 : 63 = i
        · subst h63; rfl
        · rw [decide_eq_false h63]
          have : Nat.testBit 1 (i - 63) = false := Nat.testBit_lt_two_pow (show 1 < 2 ^ (i - 63) from Nat.one_lt_two_pow (by omega))
          rw [this]; rfl
    unfold Format.word
    rw [signWeight_eq]
    cases s
    · simp only [Bool.false_eq_true, if_false, Bool.not_false, if_true]; exact e.symm
    · simp only [Bool.not_true, Bool.false_eq_true, if_false, if_true]
      rw [e, Nat.xor_assoc, Nat.xor_self, Nat.xor_zero]
  · unfold sv; cases s <;> simp


/-- the digits that a positive number of at most 53 digits lacks -/
def TE : Nat := 1019
def cz (r : Nat) : Nat := 52 - r.log2

theorem cz_le (r : Nat) : cz r ≤ 52 := Nat.sub_le _ _

theorem mant (r : Nat) (h0 : r ≠ 0) (h : r < 2 * B) : B ≤ r * 2 ^ cz r ∧ r * 2 ^ cz r < 2 * B ∧ (r * 2 ^ cz r).log2 = 52 := by
  have hl : r.log2 < 53 := (Nat.log2_lt h0).2 (by rw [← two_B]; exact h)
  have hlc : (r * 2 ^ cz r).log2 = 52 := by rw [log2_mul_pow r _ h0]; unfold cz; omega
  have hne : r * 2 ^ cz r ≠ 0 := Nat.mul_ne_zero h0 (Nat.ne_of_gt (Nat.two_pow_pos _))
  refine ⟨?_, ?_, hlc⟩
  · have := Nat.log2_self_le hne
    rw [hlc] at this
    rw [B_eq]; exact this
  · have : r * 2 ^ cz r < 2 ^ ((r * 2 ^ cz r).log2 + 1) := Nat.lt_log2_self
    rw [hlc] at this
    rw [two_B]; exact this

/-- how the word of a whole number reads -/
theorem read_int (neg : Bool) (r : Nat) (h0 : r ≠ 0) (h : r < 2 * B) :
    double.read (double.write (.number neg r 0)) = .number neg (r * 2 ^ cz r) (-1074 + ((LP - cz r : Nat) : Int)) := by
  obtain ⟨h1, h2, _⟩ := mant r h0 h
  obtain ⟨f, hf⟩ : ∃ f, r * 2 ^ cz r = B + f := ⟨r * 2 ^ cz r - B, (Nat.add_sub_cancel' h1).symm⟩
  have hfB : f < B := by rw [hf, Nat.two_mul] at h2; exact Nat.lt_of_add_lt_add_left h2
  have hc := cz_le r
  have hLP : LP = 1074 := rfl
  have hI : (LP - cz r + 1) * B + f < INF := by
    have h3 : (LP - cz r + 1) * B + f < (LP - cz r + 2) * B := by
      rw [show LP - cz r + 2 = (LP - cz r + 1) + 1 by omega, Nat.add_mul (LP - cz r + 1) 1 B, Nat.one_mul]
      exact Nat.add_lt_add_left hfB _
    have h4 : (LP - cz r + 2) * B ≤ 2047 * B := Nat.mul_le_mul_right _ (by omega)
    exact Nat.lt_of_lt_of_le h3 h4
  have hv : val ((LP - cz r + 1) * B + f) = r * 2 ^ LP := by
    rw [val_hi _ _ hfB, ← hf, Nat.mul_assoc, ← Nat.pow_add, show cz r + (LP - cz r) = LP by omega]
  have hr : rungS 0 (r * 2 ^ LP) = (LP - cz r + 1) * B + f := by rw [← hv]; exact rungS_val _ hI
  have hn : double.write (.number neg r 0) = double.word neg ((LP - cz r + 1) * B + f) := by
    rw [← hr]
    have h9 := nearest_hi neg r 0 (by decide)
    rw [show ((0 : Int) + 1074).toNat = LP from rfl] at h9
    exact h9
  rw [hn, read_hi neg _ f hfB hI, hf]

/-- the digits of the quotient r / U, the last one telling whether anything is left over -/
def qd (r U : Nat) : Nat := 2 * (r * 2 ^ cz r * 2 ^ 54 / (U * 2 ^ cz U)) + (r * 2 ^ cz r * 2 ^ 54 % (U * 2 ^ cz U) != 0).toNat

/-- the rung of the quotient r / U -/
def fq (r U : Nat) : Nat := rungS 0 (qd r U * 2 ^ (TE + cz U - cz r))

theorem fq_zero (U : Nat) : fq 0 U = 0 := by
  unfold fq qd
  rw [Nat.zero_mul, Nat.zero_mul, Nat.zero_div, Nat.zero_mod]
  have : (2 * 0 + (0 != 0 : Bool).toNat) * 2 ^ (TE + cz U - cz 0) = 0 := by
    rw [show (2 * 0 + (0 != 0 : Bool).toNat) = 0 from rfl, Nat.zero_mul]
  rw [this]
  exact rungS_zero 0

theorem write_zero (neg : Bool) : double.write (.number neg 0 0) = double.word neg 0 := by
  show double.nearest neg 0 0 = _
  unfold Format.nearest
  rw [if_pos rfl]

theorem zero_is (neg : Bool) : Is (double.word neg 0) 0 := ⟨neg, 0, by decide +kernel, rfl, by rw [val_zero, sv_zero]⟩

theorem div_is (s t : Bool) (r U : Nat) (hr : r < 2 * B) (hU0 : U ≠ 0) (hU : U < 2 * B) (hN : fq r U < INF) :
    ∃ z, double.div (double.write (.number s r 0)) (double.write (.number t U 0)) = some z ∧ Is z (sv (s ^^ t) (val (fq r U))) := by
  obtain ⟨u1, u2, u3⟩ := mant U hU0 hU
  have hUne : U * 2 ^ cz U ≠ 0 := Nat.mul_ne_zero hU0 (Nat.ne_of_gt (Nat.two_pow_pos _))
  have hc := cz_le U
  have hLP : LP = 1074 := rfl
  have hTE : TE = 1019 := rfl
  unfold Format.div
  rw [read_int t U hU0 hU]
  by_cases h0 : r = 0
  · subst h0
    rw [write_zero, read_lo s 0 B_pos]
    unfold Datum.quotient
    simp only [if_neg hUne]
    refine ⟨_, rfl, ?_⟩
    simp only [Nat.zero_shiftLeft, Nat.zero_div, Nat.zero_mod]
    rw [fq_zero, val_zero, sv_zero]
    show Is (double.nearest _ 0 _) 0
    unfold Format.nearest
    rw [if_pos rfl]
    exact zero_is _
  · obtain ⟨m1, m2, m3⟩ := mant r h0 hr
    have hd := cz_le r
    rw [read_int s r h0 hr]
    unfold Datum.quotient
    simp only [if_neg hUne, u3, m3, fractionBits_eq]
    refine ⟨_, rfl, ?_⟩
    rw [Nat.shiftLeft_eq]
    have hp : -1074 + ((LP - cz r : Nat) : Int) - (-1074 + ((LP - cz U : Nat) : Int)) - ((52 + 2 + 52 - 52 : Nat) : Int) - 1 = -1074 + ((TE + cz U - cz r : Nat) : Int) := by omega
    rw [hp]
    exact nearest_is _ (qd r U) _ hN

theorem quot_bounds (a n : Nat) (hn : 0 < n) : n * (2 * (a / n) + (a % n != 0).toNat) ≤ 2 * a + n ∧ 2 * a ≤ n * (2 * (a / n) + (a % n != 0).toNat) + n := by
  have h := Nat.div_add_mod a n
  have hm := Nat.mod_lt a hn
  have e : n * (2 * (a / n) + (a % n != 0).toNat) = 2 * (n * (a / n)) + n * (a % n != 0).toNat := by
    rw [Nat.mul_add, ← Nat.mul_assoc, Nat.mul_comm n 2, Nat.mul_assoc]
  rw [e]
  generalize n * (a / n) = q at *
  generalize a % n = b at *
  by_cases hb : b = 0
  · subst hb
    rw [show (0 != 0 : Bool) = false from rfl, show Bool.toNat false = 0 from rfl, Nat.mul_zero]
    omega
  · rw [show (b != 0) = true from bne_iff_ne.2 hb, show Bool.toNat true = 1 from rfl, Nat.mul_one]
    omega

theorem qd_mono (r r' U : Nat) (h0 : r ≠ 0) (h : r ≤ r') (hr' : r' < 2 ^ 43) (hU0 : U ≠ 0) (hU : U < 2 * B) :
    qd r U * 2 ^ (TE + cz U - cz r) ≤ qd r' U * 2 ^ (TE + cz U - cz r') := by
  by_cases he : r = r'
  · subst he; exact Nat.le_refl _
  have hTE : TE = 1019 := rfl
  have hlt : r + 1 ≤ r' := by omega
  have hB : 2 ^ 43 < 2 * B := by decide +kernel
  have hcr : 10 ≤ cz r := by
    have : r.log2 < 43 := (Nat.log2_lt h0).2 (by omega)
    unfold cz; omega
  have hcr' : 10 ≤ cz r' := by
    have : r'.log2 < 43 := (Nat.log2_lt (by omega)).2 hr'
    unfold cz; omega
  have hd := cz_le r
  have hd' := cz_le r'
  obtain ⟨u1, u2, _⟩ := mant U hU0 hU
  obtain ⟨A, hA⟩ : ∃ A, A = TE + cz U := ⟨_, rfl⟩
  rw [← hA]
  obtain ⟨n, hn⟩ : ∃ n, n = U * 2 ^ cz U := ⟨_, rfl⟩
  rw [← hn] at u1 u2
  have hn0 : 0 < n := Nat.lt_of_lt_of_le B_pos u1
  obtain ⟨b1, _⟩ := quot_bounds (r * 2 ^ cz r * 2 ^ 54) n hn0
  obtain ⟨_, b2⟩ := quot_bounds (r' * 2 ^ cz r' * 2 ^ 54) n hn0
  have e1 : n * qd r U ≤ 2 * (r * 2 ^ cz r * 2 ^ 54) + n := by unfold qd; rw [← hn]; exact b1
  have e2 : 2 * (r' * 2 ^ cz r' * 2 ^ 54) ≤ n * qd r' U + n := by unfold qd; rw [← hn]; exact b2
  have x1 : 2 ^ (A - cz r) * 2 ^ cz r = 2 ^ A := by rw [← Nat.pow_add, show A - cz r + cz r = A by omega]
  have x2 : 2 ^ (A - cz r') * 2 ^ cz r' = 2 ^ A := by rw [← Nat.pow_add, show A - cz r' + cz r' = A by omega]
  have p1 : 2 ^ 10 ≤ 2 ^ cz r := Nat.pow_le_pow_right (by decide) hcr
  have p2 : 2 ^ 10 ≤ 2 ^ cz r' := Nat.pow_le_pow_right (by decide) hcr'
  generalize 2 ^ cz r = C at *
  generalize 2 ^ cz r' = C' at *
  generalize 2 ^ (A - cz r) = X at *
  generalize 2 ^ (A - cz r') = X' at *
  generalize 2 ^ A = T at *
  generalize qd r U = Q at *
  generalize qd r' U = Q' at *
  have f1 := Nat.mul_le_mul_right X e1
  have f2 := Nat.mul_le_mul_right X' e2
  have g1 : (2 * (r * C * 2 ^ 54) + n) * X = 2 ^ 55 * (r * T) + n * X := by
    rw [← x1, Nat.add_mul]; congr 1
    rw [show (2 : Nat) ^ 55 = 2 * 2 ^ 54 by decide +kernel]
    simp only [Nat.mul_assoc, Nat.mul_comm, Nat.mul_left_comm]
  have g2 : 2 * (r' * C' * 2 ^ 54) * X' = 2 ^ 55 * (r' * T) := by
    rw [← x2]
    rw [show (2 : Nat) ^ 55 = 2 * 2 ^ 54 by decide +kernel]
    simp only [Nat.mul_assoc, Nat.mul_comm, Nat.mul_left_comm]
  have k1 : n * X * 2 ^ 10 ≤ 2 ^ 53 * T := by
    rw [← x1, Nat.mul_assoc]
    exact Nat.mul_le_mul (by rw [← two_B]; exact Nat.le_of_lt u2) (Nat.mul_le_mul_left _ p1)
  have k2 : n * X' * 2 ^ 10 ≤ 2 ^ 53 * T := by
    rw [← x2, Nat.mul_assoc]
    exact Nat.mul_le_mul (by rw [← two_B]; exact Nat.le_of_lt u2) (Nat.mul_le_mul_left _ p2)
  have k3 : r * T + T ≤ r' * T := by
    have := Nat.mul_le_mul_right T hlt
    rwa [Nat.add_mul, Nat.one_mul] at this
  rw [g1] at f1
  rw [g2, Nat.add_mul] at f2
  refine Nat.le_of_mul_le_mul_left ?_ hn0
  rw [← Nat.mul_assoc, ← Nat.mul_assoc]
  generalize n * Q * X = y at *
  generalize n * Q' * X' = y' at *
  generalize n * X = c at *
  generalize n * X' = c' at *
  generalize r * T = a at *
  generalize r' * T = a' at *
  omega

theorem fq_mono (r r' U : Nat) (h : r ≤ r') (hr' : r' < 2 ^ 43) (hU0 : U ≠ 0) (hU : U < 2 * B) : fq r U ≤ fq r' U := by
  by_cases h0 : r = 0
  · subst h0; rw [fq_zero]; exact Nat.zero_le _
  · exact rungS_mono 0 _ _ (qd_mono r r' U h0 h hr' hU0 hU)

/-- U / U is 1 -/
theorem qd_self (U : Nat) (hU0 : U ≠ 0) : qd U U * 2 ^ (TE + cz U - cz U) = K := by
  have hUne : U * 2 ^ cz U ≠ 0 := Nat.mul_ne_zero hU0 (Nat.ne_of_gt (Nat.two_pow_pos _))
  unfold qd
  rw [Nat.mul_div_cancel_left _ (Nat.pos_of_ne_zero hUne), Nat.mul_mod_right, Nat.add_sub_cancel]
  rw [show (0 != 0 : Bool).toNat = 0 from rfl, Nat.add_zero]
  have h9 : 54 + 1 + TE = LP := rfl
  rw [← Nat.pow_succ', ← Nat.pow_add, h9]
  rfl

theorem fq_self (U : Nat) (hU0 : U ≠ 0) : fq U U < INF ∧ val (fq U U) = K := by
  obtain ⟨r, h1, h2, h3⟩ := exact_val 1 LP (by decide +kernel) (by decide)
  rw [Nat.one_mul] at h2 h3
  unfold fq
  rw [qd_self U hU0]
  have e : rungS 0 K = r := h3
  rw [e]
  exact ⟨h1, h2⟩


theorem floatOfInt_eq (n : Int) : floatOfInt .f64 n = double.write (.number (n < 0) n.natAbs 0) := rfl
theorem quo_eq (x y : Nat) : floatBits .quo .f64 x y = double.div x y := rfl
theorem add_eq (x y : Nat) : floatBits .add .f64 x y = double.add x y := rfl
theorem mul_eq (x y : Nat) : floatBits .mul .f64 x y = double.mul x y := rfl

theorem rung_fin (N : Nat) (h : N ≤ 2 ^ 53 * K) : rungS 0 N < INF := by
  obtain ⟨r, h1, _, h3⟩ := exact_val 1 (53 + LP) (by decide +kernel) (by decide)
  have e : 2 ^ 53 * K = 1 * 2 ^ (53 + LP) := by unfold K; rw [Nat.one_mul, Nat.pow_add]
  rw [e] at h
  have := rungS_mono 0 _ _ h
  rw [h3] at this
  exact Nat.lt_of_le_of_lt this h1

/-- the count of units of U in d before it is rounded: whole ones, and the rounded quotient of the rest -/
def iv (U : Nat) (d : Int) : Int := d.tdiv U * K + sv (decide (d.tmod U < 0)) (val (fq (d.tmod U).natAbs U))
def hv (U : Nat) (d : Int) : Int := rd (iv U d)

theorem tmod_abs_lt (U : Nat) (hU0 : U ≠ 0) (d : Int) : (d.tmod U).natAbs < U := by
  have h1 := Int.tmod_lt_of_pos d (show (0 : Int) < U by omega)
  have h2 := Int.lt_tmod_of_pos d (show (0 : Int) < U by omega)
  omega

theorem fq_le_one (U : Nat) (hU0 : U ≠ 0) (hU : U < 2 ^ 43) (r : Nat) (h : r ≤ U) : fq r U < INF ∧ val (fq r U) ≤ K := by
  have hB : 2 ^ 43 < 2 * B := by decide +kernel
  obtain ⟨h1, h2⟩ := fq_self U hU0
  have hm := fq_mono r U U h hU hU0 (Nat.lt_trans hU hB)
  refine ⟨Nat.lt_of_le_of_lt hm h1, ?_⟩
  rw [← h2]; exact val_mono hm

theorem hours_is (U : Nat) (hU0 : U ≠ 0) (hU : U < 2 ^ 43) (d : Int) (hq : (d.tdiv U).natAbs < 2 ^ 52) :
    ∃ f z, floatBits .quo .f64 (floatOfInt .f64 (d.tmod U)) (floatOfInt .f64 U) = some f ∧ floatBits .add .f64 (floatOfInt .f64 (d.tdiv U)) f = some z ∧ Is z (hv U d) := by
  have hB : 2 ^ 43 < 2 * B := by decide +kernel
  have hB2 : 2 ^ 52 < 2 * B := by decide +kernel
  have hr := tmod_abs_lt U hU0 d
  obtain ⟨g1, g2⟩ := fq_le_one U hU0 hU _ (Nat.le_of_lt hr)
  obtain ⟨f, e1, i1⟩ := div_is (decide (d.tmod U < 0)) (decide ((U : Int) < 0)) (d.tmod U).natAbs U (by omega) hU0 (Nat.lt_trans hU hB) g1
  have hs : (decide (d.tmod U < 0) ^^ decide ((U : Int) < 0)) = decide (d.tmod U < 0) := by
    rw [decide_eq_false (show ¬ (U : Int) < 0 by omega), Bool.xor_false]
  rw [hs] at i1
  have i2 := exact_int (d.tdiv U) (Nat.lt_trans hq hB2)
  have hN : (d.tdiv U * (K : Int) + sv (decide (d.tmod U < 0)) (val (fq (d.tmod U).natAbs U))).natAbs ≤ 2 ^ 53 * K := by
    have h1 : (d.tdiv U * (K : Int)).natAbs ≤ 2 ^ 52 * K := by
      rw [Int.natAbs_mul, Int.natAbs_natCast]; exact Nat.mul_le_mul_right _ (Nat.le_of_lt hq)
    have h2 := sv_abs (decide (d.tmod U < 0)) (val (fq (d.tmod U).natAbs U))
    have h3 := Int.natAbs_add_le (d.tdiv U * (K : Int)) (sv (decide (d.tmod U < 0)) (val (fq (d.tmod U).natAbs U)))
    have e : 2 ^ 53 * K = 2 ^ 52 * K + 2 ^ 52 * K := by rw [← Nat.add_mul]
    have h4 : K ≤ 2 ^ 52 * K := Nat.le_mul_of_pos_left _ (by decide)
    rw [h2] at h3
    rw [e]
    exact Nat.le_trans h3 (Nat.add_le_add h1 (Nat.le_trans g2 h4))
  obtain ⟨z, e2, i3⟩ := add_is i2 i1 (rung_fin _ hN)
  refine ⟨f, z, e1, e2, i3⟩

theorem iv_neg (U : Nat) (d : Int) : iv U (-d) = -iv U d := by
  unfold iv
  rw [Int.neg_tdiv, Int.neg_tmod, Int.natAbs_neg, Int.neg_mul]
  have : sv (decide (-d.tmod U < 0)) (val (fq (d.tmod U).natAbs U)) = -sv (decide (d.tmod U < 0)) (val (fq (d.tmod U).natAbs U)) := by
    rcases Int.lt_trichotomy (d.tmod U) 0 with h | h | h
    · rw [decide_eq_true h, decide_eq_false (show ¬ -d.tmod U < 0 by omega)]
      simp only [sv, if_true, Bool.false_eq_true, if_false]; omega
    · rw [h, Int.natAbs_zero, fq_zero, val_zero, sv_zero, sv_zero]; rfl
    · rw [decide_eq_false (show ¬ d.tmod U < 0 by omega), decide_eq_true (show -d.tmod U < 0 by omega)]
      simp only [sv, if_true, Bool.false_eq_true, if_false]
  rw [this]; omega

theorem hv_neg (U : Nat) (d : Int) : hv U (-d) = -hv U d := by unfold hv; rw [iv_neg, rd_neg]

theorem iv_pos (U : Nat) (d : Int) (hd : 0 ≤ d) : iv U d = (d / U) * K + val (fq (d % U).toNat U) := by
  unfold iv
  rw [Int.tdiv_eq_ediv_of_nonneg hd, Int.tmod_eq_emod_of_nonneg hd]
  by_cases hU : U = 0
  · subst hU
    have : ¬ d % ((0 : Nat) : Int) < 0 := by simp; omega
    rw [decide_eq_false this]
    simp only [sv, Bool.false_eq_true, if_false]
    have e : (d % ((0 : Nat) : Int)).natAbs = (d % ((0 : Nat) : Int)).toNat := by simp; omega
    rw [e]
  · have h0 := Int.emod_nonneg d (show (U : Int) ≠ 0 by omega)
    rw [decide_eq_false (show ¬ d % (U : Int) < 0 by omega)]
    simp only [sv, Bool.false_eq_true, if_false]
    rw [show (d % (U : Int)).natAbs = (d % (U : Int)).toNat by omega]

theorem iv_mono_pos (U : Nat) (hU0 : U ≠ 0) (hU : U < 2 ^ 43) (d d' : Int) (hd : 0 ≤ d) (h : d ≤ d') : iv U d ≤ iv U d' := by
  have hB : 2 ^ 43 < 2 * B := by decide +kernel
  rw [iv_pos U d hd, iv_pos U d' (by omega)]
  have hUp : (0 : Int) < U := by omega
  have a1 := Int.emod_nonneg d (show (U : Int) ≠ 0 by omega)
  have a2 := Int.emod_lt_of_pos d hUp
  have a3 := Int.emod_nonneg d' (show (U : Int) ≠ 0 by omega)
  have a4 := Int.emod_lt_of_pos d' hUp
  have q := Int.ediv_le_ediv hUp h
  by_cases hq : d / (U : Int) = d' / (U : Int)
  · have e1 := Int.mul_ediv_add_emod d U
    have e2 := Int.mul_ediv_add_emod d' U
    rw [hq] at e1 ⊢
    have hr : (d % (U : Int)).toNat ≤ (d' % (U : Int)).toNat := by omega
    have := val_mono (fq_mono _ _ U hr (by omega) hU0 (Nat.lt_trans hU hB))
    omega
  · have h1 := (fq_le_one U hU0 hU (d % (U : Int)).toNat (by omega)).2
    have h2 : (d / (U : Int) + 1) * (K : Int) ≤ d' / (U : Int) * (K : Int) := Int.mul_le_mul_of_nonneg_right (by omega) (by omega)
    rw [Int.add_mul, Int.one_mul] at h2
    omega

theorem iv_nonneg (U : Nat) (d : Int) (hd : 0 ≤ d) : 0 ≤ iv U d := by
  rw [iv_pos U d hd]
  have := Int.mul_nonneg (Int.ediv_nonneg hd (show (0 : Int) ≤ U by omega)) (show (0 : Int) ≤ K by omega)
  omega

theorem hv_mono (U : Nat) (hU0 : U ≠ 0) (hU : U < 2 ^ 43) (d d' : Int) (h : d ≤ d') : hv U d ≤ hv U d' := by
  refine rd_mono ?_
  by_cases hd : 0 ≤ d
  · exact iv_mono_pos U hU0 hU d d' hd h
  · have n1 := iv_neg U d
    by_cases hd' : 0 ≤ d'
    · have h1 := iv_nonneg U (-d) (by omega)
      have h2 := iv_nonneg U d' hd'
      omega
    · have n2 := iv_neg U d'
      have := iv_mono_pos U hU0 hU (-d') (-d) (by omega) (by omega)
      omega

theorem val_one : val 1 = 1 := val_lo (by decide +kernel)

theorem fq_pos (U : Nat) (hU0 : U ≠ 0) (hU : U < 2 * B) (r : Nat) (h0 : r ≠ 0) (hr : r < 2 ^ 43) : 1 ≤ val (fq r U) := by
  have hB : 2 ^ 43 < 2 * B := by decide +kernel
  obtain ⟨m1, _, _⟩ := mant r h0 (by omega)
  obtain ⟨u1, u2, _⟩ := mant U hU0 hU
  have hq : 1 ≤ qd r U := by
    unfold qd
    have : 1 ≤ r * 2 ^ cz r * 2 ^ 54 / (U * 2 ^ cz U) := by
      rw [Nat.le_div_iff_mul_le (Nat.lt_of_lt_of_le B_pos u1), Nat.one_mul]
      have h1 : B * 2 ^ 54 ≤ r * 2 ^ cz r * 2 ^ 54 := Nat.mul_le_mul_right _ m1
      have h2 : 2 * B ≤ B * 2 ^ 54 := by decide +kernel
      exact Nat.le_trans (Nat.le_of_lt u2) (Nat.le_trans h2 h1)
    omega
  have hN : 1 ≤ qd r U * 2 ^ (TE + cz U - cz r) := Nat.le_trans hq (Nat.le_mul_of_pos_right _ (Nat.two_pow_pos _))
  have := rungS_mono 0 _ _ hN
  have e1 : rungS 0 1 = 1 := by have := rungS_val 1 (by decide +kernel); rwa [val_one] at this
  rw [e1] at this
  have h3 := val_mono this
  rw [val_one] at h3
  exact h3

theorem hv_pos (U : Nat) (hU0 : U ≠ 0) (hU : U < 2 ^ 43) (d : Int) (hd : 0 < d) : 0 < hv U d := by
  have hB : 2 ^ 43 < 2 * B := by decide +kernel
  have h1 : 1 ≤ iv U d := by
    rw [iv_pos U d (by omega)]
    have hUp : (0 : Int) < U := by omega
    have a1 := Int.emod_nonneg d (show (U : Int) ≠ 0 by omega)
    have a2 := Int.emod_lt_of_pos d hUp
    have e1 := Int.mul_ediv_add_emod d U
    have hq := Int.ediv_nonneg (show 0 ≤ d by omega) (show (0 : Int) ≤ U by omega)
    by_cases h0 : d / (U : Int) = 0
    · rw [h0, Int.mul_zero] at e1
      have := fq_pos U hU0 (Nat.lt_trans hU hB) (d % (U : Int)).toNat (by omega) (by omega)
      rw [h0, Int.zero_mul]; omega
    · have h2 : 1 * (K : Int) ≤ d / (U : Int) * (K : Int) := Int.mul_le_mul_of_nonneg_right (by omega) (by omega)
      have hK : (1 : Int) ≤ K := by have := K_pos; omega
      omega
  have h2 := rd_mono h1
  have h3 := rd_exact 1 0 false (by decide +kernel) (by decide)
  have h4 : sv false (1 * 2 ^ 0) = 1 := by decide
  rw [h4] at h3
  unfold hv
  omega

theorem hv_zero (U : Nat) : hv U 0 = 0 := by
  have h := hv_neg U 0
  rw [Int.neg_zero] at h
  omega

/-- a quarter of 1 -/
def Q4 : Nat := 2 ^ (LP - 2)
theorem K_Q4 : K = 4 * Q4 := by
  unfold K Q4
  have h : LP = 2 + (LP - 2) := rfl
  rw [h, Nat.pow_add, show 2 + (LP - 2) - 2 = LP - 2 by omega]

theorem fq_four (n : Nat) (hn : n < 2 * B) : fq n 4 < INF ∧ val (fq n 4) = n * Q4 := by
  obtain ⟨r, h1, h2, h3⟩ := exact_val n (LP - 2) hn (by decide)
  have key : qd n 4 * 2 ^ (TE + cz 4 - cz n) = n * 2 ^ (LP - 2) := by
    have hc := cz_le n
    have c4 : cz 4 = 50 := by decide +kernel
    have hTE : TE = 1019 := rfl
    have hLP : LP = 1074 := rfl
    unfold qd
    rw [c4]
    have e4 : 4 * 2 ^ 50 = 2 ^ 52 := by decide +kernel
    have e5 : n * 2 ^ cz n * 2 ^ 54 = (n * 2 ^ cz n * 4) * 2 ^ 52 := by
      rw [Nat.mul_assoc _ 4, show 4 * 2 ^ 52 = 2 ^ 54 by decide +kernel]
    rw [e4, e5, Nat.mul_div_cancel _ (by decide), Nat.mul_mod_left]
    rw [show (0 != 0 : Bool).toNat = 0 from rfl, Nat.add_zero]
    have e6 : 2 * (n * 2 ^ cz n * 4) = n * (2 ^ cz n * 2 ^ 3) := by
      rw [show (2 : Nat) ^ 3 = 8 by decide +kernel, ← Nat.mul_assoc n]
      generalize n * 2 ^ cz n = y
      omega
    rw [e6, ← Nat.pow_add, Nat.mul_assoc, ← Nat.pow_add, show cz n + 3 + (TE + 50 - cz n) = LP - 2 by omega]
  unfold fq
  rw [key, h3]
  exact ⟨h1, h2⟩

theorem four_is (n : Int) (hn : n.natAbs < 2 * B) : ∃ z, floatBits .quo .f64 (floatOfInt .f64 n) (floatOfInt .f64 4) = some z ∧ Is z (n * Q4) := by
  obtain ⟨h1, h2⟩ := fq_four n.natAbs hn
  obtain ⟨z, e, i⟩ := div_is (decide (n < 0)) (decide ((4 : Int) < 0)) n.natAbs 4 hn (by decide) (by decide +kernel) h1
  refine ⟨z, e, ?_⟩
  rw [h2, sv_mul] at i
  have e2 : sv (decide (n < 0) ^^ decide ((4 : Int) < 0)) n.natAbs = n := by
    rw [decide_eq_false (show ¬ (4 : Int) < 0 by omega), Bool.xor_false]
    by_cases hn : n < 0
    · rw [decide_eq_true hn]; simp only [sv, if_true]; omega
    · rw [decide_eq_false hn]; simp only [sv, Bool.false_eq_true, if_false]; omega
  rw [e2] at i
  exact i

/-- quarters are counted as they are -/
theorem hv_quarters (U W : Nat) (hU : U = 4 * W) (hW : W ≠ 0) (f1 : val (fq W U) = Q4) (f2 : val (fq (2 * W) U) = 2 * Q4) (f3 : val (fq (3 * W) U) = 3 * Q4) (n : Int) (hn : n.natAbs < 2 * B) :
    hv U (n * W) = n * Q4 := by
  have key : ∀ k : Nat, iv U ((k : Int) * W) = (k : Int) * Q4 := by
    intro k
    rw [iv_pos U _ (Int.mul_nonneg (by omega) (by omega))]
    have hWp : (0 : Int) < W := by omega
    have e1 : (U : Int) = 4 * (W : Int) := by omega
    have e2 : (k : Int) * W / (U : Int) = (k : Int) / 4 := by
      rw [e1, Int.mul_ediv_mul_of_pos_left _ _ hWp]
    have e3 : (k : Int) * W % (U : Int) = ((k % 4 * W : Nat) : Int) := by
      rw [hU, ← Int.natCast_mul, ← Int.natCast_emod, Nat.mul_mod_mul_right]
    rw [e2, e3, Int.toNat_natCast, K_Q4]
    have hk : k % 4 = 0 ∨ k % 4 = 1 ∨ k % 4 = 2 ∨ k % 4 = 3 := by omega
    have e4 : (k : Int) = 4 * ((k : Int) / 4) + ((k % 4 : Nat) : Int) := by omega
    have fin : ∀ j : Nat, k % 4 = j → val (fq (j * W) U) = j * Q4 → (k : Int) / 4 * ((4 * Q4 : Nat) : Int) + (val (fq (k % 4 * W) U) : Int) = (k : Int) * Q4 := by
      intro j hj hv
      rw [hj, hv, Int.natCast_mul, Int.natCast_mul, ← Int.mul_assoc, ← Int.add_mul]
      congr 1
      omega
    rcases hk with h | h | h | h
    · exact fin 0 h (by rw [Nat.zero_mul, fq_zero, val_zero, Nat.zero_mul])
    · exact fin 1 h (by rw [Nat.one_mul, f1, Nat.one_mul])
    · exact fin 2 h f2
    · exact fin 3 h f3
  have hv1 : ∀ k : Nat, k < 2 * B → hv U ((k : Int) * W) = (k : Int) * Q4 := by
    intro k hk
    unfold hv
    rw [key k]
    have := rd_exact k (LP - 2) false hk (by decide)
    have e : sv false (k * 2 ^ (LP - 2)) = (k : Int) * Q4 := by
      rw [sv_mul]; rfl
    rw [e] at this
    exact this
  by_cases h0 : 0 ≤ n
  · have := hv1 n.natAbs hn
    rw [show ((n.natAbs : Nat) : Int) = n by omega] at this
    exact this
  · have := hv1 n.natAbs hn
    rw [show ((n.natAbs : Nat) : Int) = -n by omega, Int.neg_mul, hv_neg, Int.neg_mul] at this
    omega

theorem val_fin0 {r : Nat} (h : val r = 0) : r = 0 := by
  rcases Nat.eq_zero_or_pos r with h0 | h0
  · exact h0
  · have := val_mono (show 1 ≤ r from h0)
    rw [val_one] at this
    omega

theorem is_zero {x : Nat} (h : Is x 0) : x = 0 ∨ x = 2 ^ 63 := by
  obtain ⟨s, r, hr, hx, hv⟩ := h
  have : val r = 0 := by
    unfold sv at hv
    split at hv <;> omega
  rw [val_fin0 this] at hx
  cases s
  · left; exact hx
  · right; rw [hx]; rfl

theorem one_is : Is 4607182418800017408 K := by
  obtain ⟨r, h1, h2, h3⟩ := exact_val 1 LP (by decide +kernel) (by decide)
  have e : r = 4607182418800017408 := by rw [← h3]; decide +kernel
  refine ⟨false, r, h1, e.symm, ?_⟩
  rw [h2, Nat.one_mul]; rfl

theorem zero0_is : Is 0 0 := zero_is false

theorem hv_one (U : Nat) (hU0 : U ≠ 0) : hv U U = K := by
  unfold hv
  have e : iv U U = K := by
    rw [iv_pos U U (by omega), Int.ediv_self (by omega), Int.emod_self]
    rw [show (0 : Int).toNat = 0 from rfl, fq_zero, val_zero]
    omega
  rw [e]
  have := rd_exact 1 LP false (by decide +kernel) (by decide)
  have e2 : sv false (1 * 2 ^ LP) = K := by rw [Nat.one_mul]; rfl
  rw [e2] at this
  exact this

theorem fq_hour : val (fq 900000000000 3600000000000) = Q4 ∧ val (fq (2 * 900000000000) 3600000000000) = 2 * Q4 ∧ val (fq (3 * 900000000000) 3600000000000) = 3 * Q4 := by
  refine ⟨?_, ?_, ?_⟩ <;> decide +kernel
theorem fq_min : val (fq 15000000000 60000000000) = Q4 ∧ val (fq (2 * 15000000000) 60000000000) = 2 * Q4 ∧ val (fq (3 * 15000000000) 60000000000) = 3 * Q4 := by
  refine ⟨?_, ?_, ?_⟩ <;> decide +kernel
theorem fq_sec : val (fq 250000000 1000000000) = Q4 ∧ val (fq (2 * 250000000) 1000000000) = 2 * Q4 ∧ val (fq (3 * 250000000) 1000000000) = 3 * Q4 := by
  refine ⟨?_, ?_, ?_⟩ <;> decide +kernel


end Go.Proofs.YteejjhdfebhagaaDoor.Fl
