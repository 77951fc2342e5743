/- Plain parsing: one number with its unit, a sequence of them, and that the text of every duration is read as that duration. Condition: vf is exact where the fraction's places divide the unit. -/
import Derived.Test.YteejjhdfebhagaaDoorParsePlain
namespace Go.Proofs.YteejjhdfebhagaaDoor

/-- a text that does not go on a unit's name -/
def noUnit (s : List UInt8) : Prop := ∀ c t, s = c :: t → inUnit c = false
def units (u : List UInt8) : Prop := ∀ c ∈ u, inUnit c = true

theorem take_unit {u rest : List UInt8} (hu : units u) (hr : noUnit rest) : (u ++ rest).takeWhile inUnit = u := by
  induction u with
  | nil =>
    cases rest with
    | nil => rfl
    | cons c t => rw [List.nil_append, List.takeWhile_cons, hr c t rfl]; rfl
  | cons c u ih =>
    rw [List.cons_append, List.takeWhile_cons, hu c (by simp), if_pos rfl, ih (fun x hx => hu x (by simp [hx]))]
theorem drop_unit {u rest : List UInt8} (hu : units u) (hr : noUnit rest) : (u ++ rest).dropWhile inUnit = rest := by
  induction u with
  | nil =>
    cases rest with
    | nil => rfl
    | cons c t => rw [List.nil_append, List.dropWhile_cons, hr c t rfl]; rfl
  | cons c u ih =>
    rw [List.cons_append, List.dropWhile_cons, hu c (by simp), if_pos rfl, ih (fun x hx => hu x (by simp [hx]))]

theorem inUnit_noDig {c : UInt8} (h : inUnit c = true) : isDig c = false ∧ (c == 46) = false := by
  unfold inUnit at h
  cases h1 : isDig c <;> cases h2 : (c == 46) <;> simp_all

theorem unit_noDig {u rest : List UInt8} (h0 : u ≠ []) (hu : units u) : noDig (u ++ rest) := by
  intro c t e
  cases u with
  | nil => exact absurd rfl h0
  | cons a u =>
    simp at e
    obtain ⟨rfl, _⟩ := e
    exact (inUnit_noDig (hu a (by simp))).1

theorem point_noDig (t : List UInt8) : noDig (46 :: t) := by
  intro c s e
  simp at e
  obtain ⟨rfl, _⟩ := e
  rfl

theorem dig_noUnit {c : UInt8} (h : isDig c = true) : inUnit c = false := by
  unfold inUnit; rw [h]; simp

theorem unitPart_unit (vf : Nat → Nat → Nat → Nat) (v f k d b : Nat) (u rest : List UInt8) (h0 : u ≠ []) (hu : units u) (hr : noUnit rest) (hb : unitBy u = some b) :
    unitPart vf v f k (u ++ rest) d = (tally vf v f k b d).map fun x => (x, rest) := by
  unfold unitPart
  rw [take_unit hu hr, drop_unit hu hr, if_neg h0, hb]

theorem part_unit {u rest : List UInt8} (h0 : u ≠ []) (hu : units u) : part (u ++ rest) = (0, 0, u ++ rest, false) := by
  cases u with
  | nil => exact absurd rfl h0
  | cons a u =>
    rw [List.cons_append]
    unfold part
    dsimp only
    rw [(inUnit_noDig (hu a (by simp))).2]
    rfl

/-- a number without a point, and its unit -/
theorem step_whole (vf : Nat → Nat → Nat → Nat) (A u rest : List UInt8) (d b : Nat) (hA : digits A) (hA0 : A ≠ []) (hv : dval A 0 ≤ two63) (h0 : u ≠ []) (hu : units u) (hr : noUnit rest) (hb : unitBy u = some b) :
    step vf (A ++ (u ++ rest)) d = (tally vf (dval A 0) 0 0 b d).map fun x => (x, rest) := by
  have hl : lint (A ++ (u ++ rest)) 0 = some (dval A 0, u ++ rest) := by
    rw [lint_digits A _ 0 hA hv, lint_stop (unit_noDig h0 hu)]
  obtain ⟨c, A', rfl⟩ : ∃ c A', A = c :: A' := by
    cases A with
    | nil => exact absurd rfl hA0
    | cons c A' => exact ⟨c, A', rfl⟩
  unfold step
  rw [List.cons_append] at hl ⊢
  dsimp only
  rw [dig_noUnit (digits_cons hA).1, if_neg (by decide), hl]
  dsimp only
  rw [part_unit h0 hu]
  have hlen : ((u ++ rest).length == (c :: (A' ++ (u ++ rest))).length) = false := by
    rw [beq_eq_false_iff_ne]; simp; omega
  rw [hlen]
  exact unitPart_unit vf _ _ _ _ _ _ _ h0 hu hr hb

/-- a number with a point, and its unit -/
theorem step_point (vf : Nat → Nat → Nat → Nat) (A B u rest : List UInt8) (d b : Nat) (hA : digits A) (hB : digits B) (hAB : A ≠ [] ∨ B ≠ []) (hv : dval A 0 ≤ two63) (hf : dval B 0 < two63) (h0 : u ≠ []) (hu : units u) (hr : noUnit rest) (hb : unitBy u = some b) :
    step vf (A ++ (46 :: (B ++ (u ++ rest)))) d = (tally vf (dval A 0) (dval B 0) B.length b d).map fun x => (x, rest) := by
  have hl : lint (A ++ (46 :: (B ++ (u ++ rest)))) 0 = some (dval A 0, 46 :: (B ++ (u ++ rest))) := by
    rw [lint_digits A _ 0 hA hv, lint_stop (point_noDig _)]
  have hlf : lfrac (B ++ (u ++ rest)) 0 0 false = (dval B 0, B.length, u ++ rest) := by
    rw [lfrac_digits B _ 0 0 hB hf, lfrac_stop (unit_noDig h0 hu), Nat.zero_add]
  have hp : part (46 :: (B ++ (u ++ rest))) = (dval B 0, B.length, u ++ rest, (u ++ rest).length != (B ++ (u ++ rest)).length) := by
    unfold part
    dsimp only
    rw [if_pos (by decide), hlf]
  obtain ⟨c, T, hT, hc⟩ : ∃ c T, A ++ (46 :: (B ++ (u ++ rest))) = c :: T ∧ inUnit c = false := by
    cases A with
    | nil => exact ⟨46, _, rfl, by decide⟩
    | cons c A' => exact ⟨c, _, rfl, dig_noUnit (digits_cons hA).1⟩
  unfold step
  rw [hT] at hl ⊢
  dsimp only
  rw [hc, if_neg (by decide), hl]
  dsimp only
  rw [hp]
  dsimp only
  have hcond : ((46 :: (B ++ (u ++ rest))).length == (c :: T).length && !((u ++ rest).length != (B ++ (u ++ rest)).length)) = false := by
    rw [← hT]
    rcases hAB with h | h
    · have : ((46 :: (B ++ (u ++ rest))).length == (A ++ (46 :: (B ++ (u ++ rest)))).length) = false := by
        rw [beq_eq_false_iff_ne]
        have := List.length_pos_iff.2 h
        simp; omega
      rw [this]; rfl
    · have : ((u ++ rest).length != (B ++ (u ++ rest)).length) = true := by
        rw [bne_iff_ne]
        have := List.length_pos_iff.2 h
        simp; omega
      rw [this]; simp
  rw [hcond]
  exact unitPart_unit vf _ _ _ _ _ _ _ h0 hu hr hb

/-! ### a step makes the text shorter -/
theorem lint_len (s : List UInt8) (x : Nat) {v : Nat} {s1 : List UInt8} (h : lint s x = some (v, s1)) : s1.length ≤ s.length := by
  induction s generalizing x with
  | nil => simp [lint] at h; rw [← h.2]; exact Nat.le_refl _
  | cons c s ih =>
    rw [lint] at h
    split at h
    · split at h
      · cases h
      · split at h
        · cases h
        · have := ih _ h; simp; omega
    · simp at h; rw [← h.2]; exact Nat.le_refl _

theorem lfrac_len (s : List UInt8) (x k : Nat) (b : Bool) : (lfrac s x k b).2.2.length ≤ s.length := by
  induction s generalizing x k b with
  | nil => exact Nat.le_refl _
  | cons c s ih =>
    rw [lfrac]
    split
    · split
      · have := ih x k true; simp; omega
      · split
        · have := ih x k true; simp; omega
        · split
          · have := ih x k true; simp; omega
          · have := ih (x * 10 + (c.toNat - 48)) (k + 1) false; simp; omega
    · exact Nat.le_refl _

theorem part_len (s : List UInt8) : (part s).2.2.1.length ≤ s.length := by
  unfold part
  split
  · exact Nat.le_refl _
  · split
    · have := lfrac_len ‹_› 0 0 false; simp; omega
    · exact Nat.le_refl _

theorem drop_len (s : List UInt8) (h : s.takeWhile inUnit ≠ []) : (s.dropWhile inUnit).length < s.length := by
  have h1 := congrArg List.length (List.takeWhile_append_dropWhile (p := inUnit) (l := s))
  rw [List.length_append] at h1
  have := List.length_pos_iff.2 h
  omega

theorem step_len {vf : Nat → Nat → Nat → Nat} {s : List UInt8} {d : Nat} {x : Nat × List UInt8} (h : step vf s d = some x) : x.2.length < s.length := by
  unfold step at h
  split at h
  · cases h
  · split at h
    · cases h
    · split at h
      · cases h
      · rename_i v s1 hl
        have l1 := lint_len _ _ hl
        have l2 := part_len s1
        split at h
        · cases h
        · unfold unitPart at h
          split at h
          · cases h
          · rename_i hne
            split at h
            · cases h
            · have l3 := drop_len _ hne
              rw [Option.map_eq_some_iff] at h
              obtain ⟨y, _, rfl⟩ := h
              simp only [] at *
              omega

/-- all numbers with their units: with as much fuel as the text is long -/
def pl (vf : Nat → Nat → Nat → Nat) (s : List UInt8) (d : Nat) : Option Nat := ploop vf s.length s d

theorem ploop_enough (vf : Nat → Nat → Nat → Nat) : ∀ (n : Nat) (s : List UInt8) (d : Nat), s.length ≤ n → ploop vf n s d = pl vf s d := by
  have key : ∀ (m n : Nat) (s : List UInt8) (d : Nat), s.length ≤ m → s.length ≤ n → ploop vf n s d = ploop vf m s d := by
    intro m
    induction m with
    | zero =>
      intro n s d h1 h2
      have : s = [] := List.eq_nil_of_length_eq_zero (by omega)
      subst this
      cases n <;> rfl
    | succ m ih =>
      intro n s d h1 h2
      by_cases hs : s = []
      · subst hs; cases n <;> rfl
      · have hp := List.length_pos_iff.2 hs
        cases n with
        | zero => omega
        | succ n =>
          rw [ploop, ploop, if_neg hs, if_neg hs]
          cases hst : step vf s d with
          | none => rfl
          | some x =>
            have := step_len hst
            exact ih n x.2 x.1 (by omega) (by omega)
  intro n s d h
  exact key _ n s d (Nat.le_refl _) h

theorem pl_nil (vf : Nat → Nat → Nat → Nat) (d : Nat) : pl vf [] d = some d := rfl
theorem pl_some {vf : Nat → Nat → Nat → Nat} {s s' : List UInt8} {d d' : Nat} (h : step vf s d = some (d', s')) : pl vf s d = pl vf s' d' := by
  have hl := step_len h
  have hs : s ≠ [] := by intro e; subst e; simp at hl
  unfold pl
  obtain ⟨n, hn⟩ : ∃ n, s.length = n + 1 := ⟨s.length - 1, by have := List.length_pos_iff.2 hs; omega⟩
  rw [hn, ploop, if_neg hs, h]
  exact ploop_enough vf n s' d' (by simp at hl; omega)
theorem pl_none {vf : Nat → Nat → Nat → Nat} {s : List UInt8} {d : Nat} (hs : s ≠ []) (h : step vf s d = none) : pl vf s d = none := by
  unfold pl
  obtain ⟨n, hn⟩ : ∃ n, s.length = n + 1 := ⟨s.length - 1, by have := List.length_pos_iff.2 hs; omega⟩
  rw [hn, ploop, if_neg hs, h]
  rfl

/-! ### fractions that are whole numbers of nanoseconds -/
def Exact (vf : Nat → Nat → Nat → Nat) : Prop := ∀ f b k q, b = q * 10 ^ k → (b = 1 ∨ b = 1000 ∨ b = 1000000 ∨ b = 1000000000 ∨ b = 60000000000 ∨ b = 3600000000000) → f < 10 ^ k → vf f b k = f * q

theorem tally_whole {vf : Nat → Nat → Nat → Nat} {v b d k : Nat} (hb : 0 < b) (h : d + v * b ≤ two63) : tally vf v 0 k b d = some (d + v * b) := by
  unfold tally
  have h1 : ¬ two63 / b < v := by
    intro hlt
    have := (Nat.div_lt_iff_lt_mul hb).1 hlt
    omega
  have h2 : (d + v * b) % two64 = d + v * b := Nat.mod_eq_of_lt (by unfold two63 two64 at *; omega)
  rw [if_neg h1, if_neg (by omega), h2, if_neg (by omega)]

theorem tally_frac {vf : Nat → Nat → Nat → Nat} {v f k b d x : Nat} (hb : 0 < b) (hx : vf f b k = x) (hz : f = 0 → x = 0) (h : d + v * b + x ≤ two63) : tally vf v f k b d = some (d + v * b + x) := by
  by_cases h0 : f = 0
  · subst h0
    rw [hz rfl] at h ⊢
    exact tally_whole hb h
  · unfold tally
    have h1 : ¬ two63 / b < v := by
      intro hlt
      have := (Nat.div_lt_iff_lt_mul hb).1 hlt
      omega
    have h2 : (v * b + x) % two64 = v * b + x := Nat.mod_eq_of_lt (by unfold two63 two64 at *; omega)
    have h3 : (d + (v * b + x)) % two64 = d + v * b + x := by
      rw [Nat.mod_eq_of_lt (by unfold two63 two64 at *; omega)]; omega
    rw [if_neg h1, if_pos (by omega), hx, h2, if_neg (by omega), h3, if_neg (by omega)]

theorem digits_frs (v i : Nat) : digits (frs v i) := by
  induction i with
  | zero => exact digits_nil
  | succ i ih =>
    rw [frs]
    split
    · exact digits_nil
    · intro c hc
      rcases List.mem_cons.1 hc with h | h
      · subst h; exact isDig_dg _
      · exact ih c h

theorem dval_shift (l : List UInt8) (x : Nat) : dval l x = x * 10 ^ l.length + dval l 0 := by
  induction l generalizing x with
  | nil => simp [dval_nil]
  | cons c l ih =>
    rw [dval_cons, dval_cons, ih, ih (0 * 10 + _), List.length_cons, Nat.pow_succ, Nat.add_mul, Nat.zero_mul, Nat.zero_add]
    rw [Nat.mul_assoc, Nat.mul_comm 10, Nat.add_assoc]

theorem dval_frs (v i : Nat) : dval (frs v i) 0 * 10 ^ (i - (frs v i).length) = v % 10 ^ i := by
  induction i with
  | zero => simp [frs, dval_nil, Nat.mod_one]
  | succ i ih =>
    have hm : v % 10 ^ (i + 1) = v % 10 ^ i + 10 ^ i * (v / 10 ^ i % 10) := by
      rw [Nat.pow_succ]; exact Nat.mod_mul
    have hlen := frs_len v i
    rw [frs]
    split
    · rename_i h
      rw [h.1] at ih
      rw [dval_nil, Nat.zero_mul] at ih ⊢
      rw [hm, h.2, ← ih, Nat.mul_zero]
    · rw [dval_cons, dval_shift, List.length_cons, dg_toNat]
      rw [show i + 1 - ((frs v i).length + 1) = i - (frs v i).length by omega, Nat.add_mul, ih, hm]
      have e : 10 ^ (frs v i).length * 10 ^ (i - (frs v i).length) = 10 ^ i := by
        rw [← Nat.pow_add, show (frs v i).length + (i - (frs v i).length) = i by omega]
      rw [Nat.mul_assoc, e, show 0 * 10 + (48 + v / 10 ^ i % 10 - 48) = v / 10 ^ i % 10 by omega]
      rw [Nat.mul_comm (10 ^ i), Nat.add_comm]

theorem dval_lt {l : List UInt8} (h : digits l) : dval l 0 < 10 ^ l.length := by
  induction l with
  | nil => decide
  | cons c l ih =>
    obtain ⟨h1, h2⟩ := digits_cons h
    have := ih h2
    rw [dval_cons, dval_shift, List.length_cons, Nat.pow_succ]
    unfold isDig at h1
    simp at h1
    have hc : 0 * 10 + (c.toNat - 48) ≤ 9 := by omega
    have h3 : (0 * 10 + (c.toNat - 48)) * 10 ^ l.length ≤ 9 * 10 ^ l.length := Nat.mul_le_mul_right _ hc
    omega

/-- a number of StrPlain's texts with its unit: 'a' whole units and the last i digits of v -/
theorem step_seg {vf : Nat → Nat → Nat → Nat} (hvf : Exact vf) (a v i d b q : Nat) (u rest : List UInt8) (ha : a ≤ two63) (hi : i ≤ 9) (h0 : u ≠ []) (hu : units u) (hr : noUnit rest) (hb : unitBy u = some b) (hq : b = q * 10 ^ i)
    (hun : b = 1 ∨ b = 1000 ∨ b = 1000000 ∨ b = 1000000000 ∨ b = 60000000000 ∨ b = 3600000000000) (h : d + a * b + v % 10 ^ i * q ≤ two63) :
    step vf (dec a ++ (frac v i ++ (u ++ rest))) d = some (d + a * b + v % 10 ^ i * q, rest) := by
  have hb0 : 0 < b := by omega
  unfold frac
  split
  · rename_i hf
    have hz : v % 10 ^ i = 0 := by
      have := dval_frs v i
      rw [hf, dval_nil, Nat.zero_mul] at this
      exact this.symm
    rw [hz, Nat.zero_mul, Nat.add_zero] at h ⊢
    rw [List.nil_append, step_whole vf (dec a) u rest d b (digits_dec a) (dec_ne a) (by rw [dval_dec]; exact ha) h0 hu hr hb, dval_dec, tally_whole hb0 h]
    rfl
  · rename_i hf
    have hlen := frs_len v i
    have hd := dval_lt (digits_frs v i)
    have hpow : 10 ^ (frs v i).length ≤ 10 ^ 9 := Nat.pow_le_pow_right (by decide) (by omega)
    have hsmall : dval (frs v i) 0 < two63 := by
      have : (10 : Nat) ^ 9 < two63 := by decide +kernel
      omega
    have e1 : 10 ^ i = 10 ^ (i - (frs v i).length) * 10 ^ (frs v i).length := by
      rw [← Nat.pow_add, show i - (frs v i).length + (frs v i).length = i by omega]
    have hx : vf (dval (frs v i) 0) b (frs v i).length = v % 10 ^ i * q := by
      rw [hvf _ b _ (q * 10 ^ (i - (frs v i).length)) (by rw [Nat.mul_assoc, ← e1]; exact hq) hun hd, ← dval_frs v i]
      rw [Nat.mul_comm q, Nat.mul_assoc]
    rw [List.cons_append, step_point vf (dec a) (frs v i) u rest d b (digits_dec a) (digits_frs v i) (Or.inl (dec_ne a)) (by rw [dval_dec]; exact ha) hsmall h0 hu hr hb, dval_dec]
    rw [tally_frac hb0 hx (fun h9 => by rw [← dval_frs v i, h9, Nat.zero_mul, Nat.zero_mul]) h]
    rfl

theorem noUnit_nil : noUnit [] := by intro c t e; cases e
theorem noUnit_dec (n : Nat) (rest : List UInt8) : noUnit (dec n ++ rest) := by
  intro c t e
  have hd := digits_dec n
  cases h : dec n with
  | nil => exact absurd h (dec_ne n)
  | cons a l =>
    rw [h] at e hd
    simp at e
    obtain ⟨rfl, _⟩ := e
    exact dig_noUnit (digits_cons hd).1

theorem pl_seg {vf : Nat → Nat → Nat → Nat} (hvf : Exact vf) (a v i d b q : Nat) (u rest : List UInt8) (ha : a ≤ two63) (hi : i ≤ 9) (h0 : u ≠ []) (hu : units u) (hr : noUnit rest) (hb : unitBy u = some b) (hq : b = q * 10 ^ i)
    (hun : b = 1 ∨ b = 1000 ∨ b = 1000000 ∨ b = 1000000000 ∨ b = 60000000000 ∨ b = 3600000000000) (h : d + a * b + v % 10 ^ i * q ≤ two63) :
    pl vf (dec a ++ (frac v i ++ (u ++ rest))) d = pl vf rest (d + a * b + v % 10 ^ i * q) :=
  pl_some (step_seg hvf a v i d b q u rest ha hi h0 hu hr hb hq hun h)

theorem pl_whole {vf : Nat → Nat → Nat → Nat} (a d b : Nat) (u rest : List UInt8) (h0 : u ≠ []) (hu : units u) (hr : noUnit rest) (hb : unitBy u = some b) (hb0 : 0 < b) (h : d + a * b ≤ two63) :
    pl vf (dec a ++ (u ++ rest)) d = pl vf rest (d + a * b) := by
  have ha : a ≤ two63 := by
    have : a * 1 ≤ a * b := Nat.mul_le_mul_left _ hb0
    omega
  refine pl_some ?_
  rw [step_whole vf (dec a) u rest d b (digits_dec a) (dec_ne a) (by rw [dval_dec]; exact ha) h0 hu hr hb, dval_dec, tally_whole hb0 h]
  rfl

theorem units_of {u : List UInt8} (h : u.all inUnit = true) : units u := fun c hc => List.all_eq_true.1 h c hc

/-- The text of a size is read on top of what was read before, if the sum is at most 2^63. -/
theorem pl_strU {vf : Nat → Nat → Nat → Nat} (hvf : Exact vf) (n d : Nat) (rest : List UInt8) (hr : noUnit rest) (h : d + n ≤ two63) : pl vf (strU n ++ rest) d = pl vf rest (d + n) := by
  have hT : two63 = 9223372036854775808 := rfl
  unfold strU
  split
  · rename_i h0
    subst h0
    have := pl_whole (vf := vf) 0 d 1000000000 [115] rest (by decide) (units_of (by decide)) hr (by decide) (by decide) (by omega)
    rw [Nat.zero_mul] at this
    exact this
  · split
    · have := pl_whole (vf := vf) n d 1 [110, 115] rest (by decide) (units_of (by decide)) hr (by decide) (by decide) (by omega)
      rw [Nat.mul_one] at this
      rw [List.append_assoc]
      exact this
    · split
      · have e : n / 1000 * 1000 + n % 10 ^ 3 * 1 = n := by omega
        have := pl_seg hvf (n / 1000) n 3 d 1000 1 [194, 181, 115] rest (by omega) (by decide) (by decide) (units_of (by decide)) hr (by decide) (by decide) (by omega) (by omega)
        rw [Nat.add_assoc, e] at this
        rw [List.append_assoc, List.append_assoc]
        exact this
      · split
        · have e : n / 1000000 * 1000000 + n % 10 ^ 6 * 1 = n := by omega
          have := pl_seg hvf (n / 1000000) n 6 d 1000000 1 [109, 115] rest (by omega) (by decide) (by decide) (units_of (by decide)) hr (by decide) (by decide) (by omega) (by omega)
          rw [Nat.add_assoc, e] at this
          rw [List.append_assoc, List.append_assoc]
          exact this
        · dsimp only
          have sec : ∀ d', d' + n / 1000000000 % 60 * 1000000000 + n % 10 ^ 9 * 1 ≤ two63 → pl vf (dec (n / 1000000000 % 60) ++ (frac n 9 ++ ([115] ++ rest))) d' = pl vf rest (d' + n / 1000000000 % 60 * 1000000000 + n % 10 ^ 9 * 1) := by
            intro d' hd'
            exact pl_seg hvf _ n 9 d' 1000000000 1 [115] rest (by omega) (by decide) (by decide) (units_of (by decide)) hr (by decide) (by decide) (by omega) hd'
          split
          · rename_i hh
            split
            · rename_i hm
              have := sec d (by omega)
              rw [List.nil_append, List.nil_append, List.append_assoc, List.append_assoc, this]
              congr 1; omega
            · rename_i hm
              have hmin := pl_whole (vf := vf) (n / 1000000000 / 60 % 60) d 60000000000 [109] (dec (n / 1000000000 % 60) ++ (frac n 9 ++ ([115] ++ rest))) (by decide) (units_of (by decide)) (noUnit_dec _ _) (by decide) (by decide) (by omega)
              have := sec (d + n / 1000000000 / 60 % 60 * 60000000000) (by omega)
              rw [this] at hmin
              simp only [List.nil_append, List.append_assoc] at hmin ⊢
              rw [hmin]
              congr 1; omega
          · rename_i hh
            rw [if_neg (by omega)]
            have hhr := pl_whole (vf := vf) (n / 1000000000 / 60 / 60) d 3600000000000 [104] (dec (n / 1000000000 / 60 % 60) ++ ([109] ++ (dec (n / 1000000000 % 60) ++ (frac n 9 ++ ([115] ++ rest))))) (by decide) (units_of (by decide)) (noUnit_dec _ _) (by decide) (by decide) (by omega)
            have hmin := pl_whole (vf := vf) (n / 1000000000 / 60 % 60) (d + n / 1000000000 / 60 / 60 * 3600000000000) 60000000000 [109] (dec (n / 1000000000 % 60) ++ (frac n 9 ++ ([115] ++ rest))) (by decide) (units_of (by decide)) (noUnit_dec _ _) (by decide) (by decide) (by omega)
            have := sec (d + n / 1000000000 / 60 / 60 * 3600000000000 + n / 1000000000 / 60 % 60 * 60000000000) (by omega)
            rw [hmin, this] at hhr
            simp only [List.append_assoc] at hhr ⊢
            rw [hhr]
            congr 1; omega

/-- the text of a size begins with a digit -/
theorem strU_head (n : Nat) : ∃ c t, strU n = c :: t ∧ isDig c = true := by
  have hd : ∀ m rest, ∃ c t, dec m ++ rest = c :: t ∧ isDig c = true := by
    intro m rest
    cases h : dec m with
    | nil => exact absurd h (dec_ne m)
    | cons a l =>
      have := digits_dec m
      rw [h] at this
      exact ⟨a, l ++ rest, rfl, (digits_cons this).1⟩
  unfold strU
  split
  · exact ⟨48, [115], rfl, by decide⟩
  · split
    · exact hd _ _
    · split
      · exact hd _ _
      · split
        · exact hd _ _
        · dsimp only
          split
          · split
            · exact hd _ _
            · rw [List.nil_append, List.append_assoc]; exact hd _ _
          · rw [List.append_assoc]; exact hd _ _

theorem isDig_nosign {c : UInt8} (h : isDig c = true) : (c == 45) = false ∧ (c == 43) = false := by
  unfold isDig at h
  simp at h
  constructor
  · rw [beq_eq_false_iff_ne]; intro e; subst e; exact absurd h.1 (by decide)
  · rw [beq_eq_false_iff_ne]; intro e; subst e; exact absurd h.1 (by decide)

theorem unsign_digit {c : UInt8} {t : List UInt8} (h : isDig c = true) : unsign (c :: t) = (false, c :: t) := by
  unfold unsign
  dsimp only
  rw [(isDig_nosign h).1, (isDig_nosign h).2]
  rfl

theorem strU_long (n : Nat) : strU n ≠ [48] ∧ strU n ≠ [] := by
  have hd := dec_pos_len
  have hl : 2 ≤ (strU n).length := by
    unfold strU
    split
    · decide
    · split
      · have := hd n; simp <;> omega
      · split
        · simp <;> omega
        · split
          · simp <;> omega
          · dsimp only
            have := hd (n / 1000000000 % 60)
            simp <;> omega
  constructor
  · intro h; rw [h] at hl; simp at hl
  · intro h; rw [h] at hl; simp at hl

/-- EVERY TEXT OF A DURATION IS READ AS THAT DURATION. -/
theorem parse_str {vf : Nat → Nat → Nat → Nat} (hvf : Exact vf) {d : Int} (h1 : -9223372036854775808 ≤ d) (h2 : d ≤ 9223372036854775807) : parse vf (str d) = some d := by
  have hT : two63 = 9223372036854775808 := rfl
  have hp := pl_strU hvf d.natAbs 0 [] noUnit_nil (by omega)
  rw [List.append_nil, Nat.zero_add, pl_nil] at hp
  obtain ⟨c, t, e, hc⟩ := strU_head d.natAbs
  obtain ⟨l1, l2⟩ := strU_long d.natAbs
  unfold parse str
  split
  · rename_i hneg
    have hu : unsign (45 :: strU d.natAbs) = (true, strU d.natAbs) := rfl
    rw [hu]
    dsimp only
    rw [if_neg l1, if_neg l2]
    unfold pl at hp
    rw [hp]
    dsimp only
    rw [if_pos rfl]
    congr 1; omega
  · rename_i hneg
    have hu : unsign (strU d.natAbs) = (false, strU d.natAbs) := by rw [e]; exact unsign_digit hc
    rw [hu]
    dsimp only
    rw [if_neg l1, if_neg l2]
    unfold pl at hp
    rw [hp]
    dsimp only
    rw [if_neg (by decide), if_neg (by omega)]
    congr 1; omega

/-- an exact way to reckon a fraction, by whole numbers alone -/
def vfNat (f b k : Nat) : Nat := f * (b / 10 ^ k)
theorem vfNat_exact : Exact vfNat := by
  intro f b k q hb _ _
  unfold vfNat
  rw [hb, Nat.mul_div_cancel _ (Nat.pow_pos (by decide))]

/-- DIFFERENT DURATIONS HAVE DIFFERENT TEXTS. -/
theorem str_inj {a b : Int} (h1 : -9223372036854775808 ≤ a) (h2 : a ≤ 9223372036854775807) (h3 : -9223372036854775808 ≤ b) (h4 : b ≤ 9223372036854775807) (h : str a = str b) : a = b := by
  have p1 := parse_str vfNat_exact h1 h2
  have p2 := parse_str vfNat_exact h3 h4
  rw [h, p2] at p1
  exact (Option.some.inj p1).symm

end Go.Proofs.YteejjhdfebhagaaDoor
