/- The reference's reading of a text beside the plain parse: a number with its unit taken apart by digits, point and name; what is bad for one is none for the other; and the sums go together as long as the reference is sure. No program in sight. -/
import Derived.Test.YteejjhdfebhagaaDoorLawPlain
import Derived.Test.YteejjhdfebhagaaDoorVf
namespace Go.Proofs.YteejjhdfebhagaaDoor
set_option linter.unusedVariables false

theorem tw_digits (s : List UInt8) : digits (s.takeWhile isDig) := by
  induction s with
  | nil => exact digits_nil
  | cons c s ih =>
    rw [List.takeWhile_cons]
    split
    · rename_i h
      intro x hx
      rcases List.mem_cons.1 hx with e | e
      · subst e; exact h
      · exact ih x e
    · exact digits_nil
theorem dw_noDig (s : List UInt8) : noDig (s.dropWhile isDig) := by
  induction s with
  | nil => intro c t e; cases e
  | cons c s ih =>
    rw [List.dropWhile_cons]
    split
    · exact ih
    · rename_i h
      intro x t e
      cases e
      simpa using h
theorem tw_dw (s : List UInt8) : s.takeWhile isDig ++ s.dropWhile isDig = s := List.takeWhile_append_dropWhile

theorem lint_form (s : List UInt8) : lint s 0 = if two63 < dval (s.takeWhile isDig) 0 then none else some (dval (s.takeWhile isDig) 0, s.dropWhile isDig) := by
  have hs := tw_dw s
  generalize hA : s.takeWhile isDig = A at *
  generalize hR : s.dropWhile isDig = R at *
  have hd : digits A := by rw [← hA]; exact tw_digits s
  have hn : noDig R := by rw [← hR]; exact dw_noDig s
  rw [← hs]
  by_cases h : two63 < dval A 0
  · rw [if_pos h]; exact lint_over A R 0 hd (Nat.zero_le _) h
  · rw [if_neg h, lint_digits A R 0 hd (by omega), lint_stop hn]

theorem lfrac_rest (B R : List UInt8) : ∀ (x k : Nat) (ov : Bool), digits B → noDig R → lfrac (B ++ R) x k ov = ((lfrac B x k ov).1, (lfrac B x k ov).2.1, R) := by
  induction B with
  | nil => intro x k ov _ hn; rw [List.nil_append, lfrac_stop hn]; rfl
  | cons c B ih =>
    intro x k ov hd hn
    obtain ⟨h1, h2⟩ := digits_cons hd
    rw [List.cons_append, lfrac, lfrac, if_pos h1, if_pos h1]
    split
    · exact ih _ _ _ h2 hn
    · split
      · exact ih _ _ _ h2 hn
      · split
        · exact ih _ _ _ h2 hn
        · exact ih _ _ _ h2 hn

/-- the fraction's digits, and how many count -/
def fk (B : List UInt8) : Nat × Nat := ((lfrac B 0 0 false).1, (lfrac B 0 0 false).2.1)
theorem fk_small {B : List UInt8} (hB : digits B) (h : dval B 0 < two63) : fk B = (dval B 0, B.length) := by
  have h1 := lfrac_digits B [] 0 0 hB h
  rw [List.append_nil, Nat.zero_add] at h1
  unfold fk
  rw [h1]
  rfl

/-- what stands behind the whole digits -/
def After (s1 : List UInt8) (point : Bool) (B s2 : List UInt8) : Prop :=
  (point = true ∧ ∃ t, s1 = 46 :: t ∧ B = t.takeWhile isDig ∧ s2 = t.dropWhile isDig) ∨ (point = false ∧ head46 s1 = false ∧ B = [] ∧ s2 = s1)
theorem After.digits {s1 : List UInt8} {point : Bool} {B s2 : List UInt8} (h : After s1 point B s2) : digits B := by
  rcases h with ⟨_, t, _, rfl, _⟩ | ⟨_, _, rfl, _⟩
  · exact tw_digits t
  · exact digits_nil
theorem After.len {s1 : List UInt8} {point : Bool} {B s2 : List UInt8} (h : After s1 point B s2) : s2.length ≤ s1.length := by
  rcases h with ⟨_, t, rfl, _, rfl⟩ | ⟨_, _, _, rfl⟩
  · have := congrArg List.length (tw_dw t)
    rw [List.length_append] at this
    simp; omega
  · exact Nat.le_refl _
theorem After.part {s1 : List UInt8} {point : Bool} {B s2 : List UInt8} (h : After s1 point B s2) : part s1 = ((fk B).1, (fk B).2, s2, !B.isEmpty) := by
  rcases h with ⟨_, t, rfl, rfl, rfl⟩ | ⟨_, h0, rfl, rfl⟩
  · have h1 := lfrac_rest (t.takeWhile isDig) (t.dropWhile isDig) 0 0 false (tw_digits t) (dw_noDig t)
    rw [tw_dw] at h1
    rw [part_point, h1]
    dsimp only
    have h2 := congrArg List.length (tw_dw t)
    rw [List.length_append] at h2
    have h3 : ((t.dropWhile isDig).length != t.length) = !(t.takeWhile isDig).isEmpty := by
      cases hB : t.takeWhile isDig with
      | nil => rw [hB] at h2; simp at h2 ⊢; omega
      | cons c B => rw [hB] at h2; simp at h2 ⊢; omega
    rw [h3]
    rfl
  · rw [part_no h0]; rfl

/-- ONE NUMBER WITH ITS UNIT, by its digits, its point and its name. -/
theorem step_form (vf : Nat → Nat → Nat → Nat) {s B s2 : List UInt8} {point : Bool} (hs : s ≠ []) (h : After (s.dropWhile isDig) point B s2) (d : Nat) :
    step vf s d = if s.takeWhile isDig = [] ∧ B = [] then none else if two63 < dval (s.takeWhile isDig) 0 then none else unitPart vf (dval (s.takeWhile isDig) 0) (fk B).1 (fk B).2 s2 d := by
  have hp := h.part
  obtain ⟨c, t, rfl⟩ : ∃ c t, s = c :: t := by
    cases s with
    | nil => exact absurd rfl hs
    | cons c t => exact ⟨c, t, rfl⟩
  have hlen := congrArg List.length (tw_dw (c :: t))
  rw [List.length_append] at hlen
  by_cases hu : inUnit c = true
  · have hnd := inUnit_noDig hu
    have hA : (c :: t).takeWhile isDig = [] := by rw [List.takeWhile_cons, hnd.1]; rfl
    have hR : (c :: t).dropWhile isDig = c :: t := by rw [List.dropWhile_cons, hnd.1]; rfl
    have hB : B = [] := by
      rw [hR] at h
      rcases h with ⟨_, t', e, _, _⟩ | ⟨_, _, e, _⟩
      · cases e; exact absurd hnd.2 (by decide)
      · exact e
    rw [if_pos ⟨hA, hB⟩]
    exact step_unit hu
  · have hu' : inUnit c = false := by simpa using hu
    have hl := lint_form (c :: t)
    by_cases hv : two63 < dval ((c :: t).takeWhile isDig) 0
    · rw [if_pos hv] at hl
      rw [step_nolint hu' hl, if_pos hv]
      split
      · rfl
      · rfl
    · rw [if_neg hv] at hl
      by_cases he : (c :: t).takeWhile isDig = [] ∧ B = []
      · rw [if_pos he]
        refine step_nodig hu' hl ?_
        rw [hp, he.2, Bool.and_eq_true]
        refine ⟨?_, rfl⟩
        rw [beq_iff_eq]
        rw [he.1, List.length_nil] at hlen
        omega
      · rw [if_neg he, if_neg hv]
        refine step_go hu' hl hp ?_
        rw [Bool.and_eq_false_iff]
        by_cases hA : (c :: t).takeWhile isDig = []
        · right
          have hB : B ≠ [] := fun e => he ⟨hA, e⟩
          cases B with
          | nil => exact absurd rfl hB
          | cons x B => rfl
        · left
          rw [beq_eq_false_iff_ne]
          have := List.length_pos_iff.2 hA
          omega

/-! ### the two readings side by side -/
/-- the text t is none, or is read on at s -/
def R1 (t s : List UInt8) : Prop := pl vf t 0 = none ∨ ∃ d, pl vf t 0 = pl vf s d
/-- the text t is read on at s with the sum so far; or the sum is too great, and t none -/
def R2 (t s : List UInt8) (sum : Nat) : Prop := (sum ≤ two63 ∧ pl vf t 0 = pl vf s sum) ∨ (two63 < sum ∧ pl vf t 0 = none)
def Inv (t s : List UInt8) (sum : Nat) (sure : Bool) : Prop := R1 t s ∧ (sure = true → R2 t s sum)

theorem inv_start (t : List UInt8) : Inv t t 0 true := ⟨Or.inr ⟨0, rfl⟩, fun _ => Or.inl ⟨Nat.zero_le _, rfl⟩⟩

/-- a bad piece: the whole text is none -/
theorem inv_bad {t s B s2 : List UInt8} {sum : Nat} {sure point : Bool} (hI : Inv t s sum sure) (hs : s ≠ []) (h : After (s.dropWhile isDig) point B s2)
    (hb : unitBy (s2.takeWhile inUnit) = none ∨ (s.takeWhile isDig = [] ∧ B = [])) : pl vf t 0 = none := by
  rcases hI.1 with h1 | ⟨d, h1⟩
  · exact h1
  · rw [h1]
    refine pl_none hs ?_
    rw [step_form vf hs h d]
    split
    · rfl
    · rename_i hne
      split
      · rfl
      · rcases hb with hb | hb
        · unfold unitPart
          split
          · rfl
          · rw [hb]
        · exact absurd hb hne

theorem step_good {s B s2 : List UInt8} {point : Bool} {b : Nat} (hs : s ≠ []) (h : After (s.dropWhile isDig) point B s2) (hAB : ¬ (s.takeWhile isDig = [] ∧ B = [])) (hb : unitBy (s2.takeWhile inUnit) = some b) (d : Nat) :
    step vf s d = if two63 < dval (s.takeWhile isDig) 0 then none else (tally vf (dval (s.takeWhile isDig) 0) (fk B).1 (fk B).2 b d).map fun x => (x, s2.dropWhile inUnit) := by
  rw [step_form vf hs h d, if_neg hAB]
  have hu : s2.takeWhile inUnit ≠ [] := by intro e; rw [e] at hb; cases hb
  rw [unitPart_some hu hb]

/-- a good piece: read on behind it -/
theorem r1_next {t s B s2 : List UInt8} {sum b : Nat} {sure point : Bool} (hI : Inv t s sum sure) (hs : s ≠ []) (h : After (s.dropWhile isDig) point B s2) (hAB : ¬ (s.takeWhile isDig = [] ∧ B = [])) (hb : unitBy (s2.takeWhile inUnit) = some b) : R1 t (s2.dropWhile inUnit) := by
  rcases hI.1 with h1 | ⟨d, h1⟩
  · exact Or.inl h1
  · have hst := step_good hs h hAB hb d
    cases hx : step vf s d with
    | none => exact Or.inl (h1.trans (pl_none hs hx))
    | some x =>
      rw [hx] at hst
      split at hst
      · cases hst
      · have hst := hst.symm
        rw [Option.map_eq_some_iff] at hst
        obtain ⟨y, _, e⟩ := hst
        subst e
        exact Or.inr ⟨y, h1.trans (pl_some hx)⟩

/-- the sum goes on, capped -/
theorem r2_next {t s s3 : List UInt8} {sum X : Nat} (h : R2 t s sum) (hs : s ≠ []) (hsum : sum ≤ two63 + 1) (hX : X ≤ two63 + 1) (hst : ∀ d, step vf s d = if X ≤ two63 then (fin d X).map fun x => (x, s3) else none) (hno : ¬ (sum = two63 ∧ X = two63)) : R2 t s3 (min (sum + X) (two63 + 1)) := by
  have hT : two63 = 9223372036854775808 := rfl
  have hT2 : two64 = 18446744073709551616 := rfl
  rcases h with ⟨h1, h2⟩ | ⟨h1, h2⟩
  · have hs' := hst sum
    by_cases hx : X ≤ two63
    · rw [if_pos hx] at hs'
      by_cases h3 : sum + X ≤ two63
      · rw [fin_ok h3] at hs'
        left
        refine ⟨by omega, ?_⟩
        rw [h2, Nat.min_eq_left (by omega)]
        exact pl_some hs'
      · rw [fin_big (by omega) (by omega)] at hs'
        right
        exact ⟨by omega, h2.trans (pl_none hs hs')⟩
    · rw [if_neg hx] at hs'
      right
      exact ⟨by omega, h2.trans (pl_none hs hs')⟩
  · right
    exact ⟨by omega, h2⟩

/-- what a piece adds where its fraction is 0 -/
theorem step_zero {s B s2 : List UInt8} {point : Bool} {b : Nat} (hs : s ≠ []) (h : After (s.dropWhile isDig) point B s2) (hAB : ¬ (s.takeWhile isDig = [] ∧ B = [])) (hb : unitBy (s2.takeWhile inUnit) = some b) (hz : dval B 0 = 0) :
    ∀ d, step vf s d = if min (dval (s.takeWhile isDig) 0 * b) (two63 + 1) ≤ two63 then (fin d (min (dval (s.takeWhile isDig) 0 * b) (two63 + 1))).map (fun x => (x, s2.dropWhile inUnit)) else none := by
  intro d
  have hb0 : 0 < b := by have := unitBy_is hb; unfold isUnit at this; omega
  rw [step_good hs h hAB hb d, fk_small h.digits (by rw [hz]; decide)]
  dsimp only
  rw [hz]
  generalize dval (s.takeWhile isDig) 0 = v
  by_cases hv : v * b ≤ two63
  · have hov : ¬ two63 / b < v := by
      intro hlt
      have := (Nat.div_lt_iff_lt_mul hb0).1 hlt
      omega
    have hv1 : v ≤ v * b := Nat.le_mul_of_pos_right _ hb0
    rw [if_neg (by omega), tally_f0 hov, Nat.min_eq_left (by omega), if_pos hv]
  · have hR : ¬ min (v * b) (two63 + 1) ≤ two63 := by omega
    rw [if_neg hR]
    split
    · rfl
    · rw [tally_over ((Nat.div_lt_iff_lt_mul hb0).2 (by omega))]; rfl

def roomOf (b : Nat) : Nat := if b = 1 then 0 else if b = 1000 then 3 else if b = 1000000 then 6 else if b = 1000000000 then 9 else if b = 60000000000 then 10 else 11
theorem room_div {b m : Nat} (hb : isUnit b) (hm : m ≤ roomOf b) : b = b / 10 ^ m * 10 ^ m ∧ 0 < b / 10 ^ m ∧ m ≤ 11 := by
  have key : ∀ b ∈ Fl.units6, ∀ m ∈ List.range 12, m ≤ roomOf b → b = b / 10 ^ m * 10 ^ m ∧ 0 < b / 10 ^ m := by decide +kernel
  have h12 : m ≤ 11 := by
    have : roomOf b ≤ 11 := by unfold roomOf; repeat' split
                               all_goals omega
    omega
  obtain ⟨h1, h2⟩ := key b (Fl.unit_mem hb) m (List.mem_range.2 (by omega)) hm
  exact ⟨h1, h2, h12⟩

/-- what a piece adds where its fraction has no more digits than the unit has places -/
theorem step_frac {s B s2 : List UInt8} {point : Bool} {b : Nat} (hs : s ≠ []) (h : After (s.dropWhile isDig) point B s2) (hAB : ¬ (s.takeWhile isDig = [] ∧ B = [])) (hb : unitBy (s2.takeWhile inUnit) = some b) (hm : B.length ≤ roomOf b) :
    ∀ d, step vf s d = if min (min (dval (s.takeWhile isDig) 0 * b) (two63 + 1) + min (dval B 0 * (b / 10 ^ B.length)) (two63 + 1)) (two63 + 1) ≤ two63 then (fin d (min (min (dval (s.takeWhile isDig) 0 * b) (two63 + 1) + min (dval B 0 * (b / 10 ^ B.length)) (two63 + 1)) (two63 + 1))).map (fun x => (x, s2.dropWhile inUnit)) else none := by
  intro d
  have hu := unitBy_is hb
  have hb0 : 0 < b := by unfold isUnit at hu; omega
  have hbl : b ≤ 3600000000000 := by unfold isUnit at hu; omega
  obtain ⟨hq, hq0, h11⟩ := room_div hu hm
  have hlt := dval_lt h.digits
  have hpw : 10 ^ B.length ≤ 10 ^ 11 := Nat.pow_le_pow_right (by decide) h11
  have h5 : (10 : Nat) ^ 11 < two63 := by decide +kernel
  have hx : vf (dval B 0) b B.length = dval B 0 * (b / 10 ^ B.length) := vf_exact _ _ _ _ hq hu hlt
  have hxb : dval B 0 * (b / 10 ^ B.length) ≤ b := by
    have : dval B 0 * (b / 10 ^ B.length) ≤ 10 ^ B.length * (b / 10 ^ B.length) := Nat.mul_le_mul_right _ (Nat.le_of_lt hlt)
    rw [Nat.mul_comm (10 ^ B.length), ← hq] at this
    exact this
  rw [step_good hs h hAB hb d, fk_small h.digits (by omega)]
  dsimp only
  generalize hx0 : dval B 0 * (b / 10 ^ B.length) = x at *
  generalize dval (s.takeWhile isDig) 0 = v at *
  have hT : two63 = 9223372036854775808 := rfl
  have hT2 : two64 = 18446744073709551616 := rfl
  by_cases hv : v * b ≤ two63
  · have hov : ¬ two63 / b < v := by
      intro hlt
      have := (Nat.div_lt_iff_lt_mul hb0).1 hlt
      omega
    have hv1 : v ≤ v * b := Nat.le_mul_of_pos_right _ hb0
    rw [if_neg (by omega), Nat.min_eq_left (show v * b ≤ two63 + 1 by omega), Nat.min_eq_left (show x ≤ two63 + 1 by omega)]
    rcases Nat.eq_zero_or_pos (dval B 0) with hz | hz
    · have hx9 : x = 0 := by rw [← hx0, hz, Nat.zero_mul]
      rw [hz, tally_f0 hov, hx9, Nat.add_zero, Nat.min_eq_left (by omega), if_pos hv]
    · by_cases h9 : v * b + x ≤ two63
      · rw [tally_fok hov hz (by rw [hx]; exact h9), hx, Nat.min_eq_left (by omega), if_pos h9]
      · rw [tally_fbig hov hz (by rw [hx]; omega) (by rw [hx]; omega), if_neg (by omega)]; rfl
  · have hR : ¬ min (min (v * b) (two63 + 1) + min x (two63 + 1)) (two63 + 1) ≤ two63 := by omega
    rw [if_neg hR]
    split
    · rfl
    · rw [tally_over ((Nat.div_lt_iff_lt_mul hb0).2 (by omega))]; rfl

theorem s3_len {s B s2 : List UInt8} {point : Bool} (hs : s ≠ []) (h : After (s.dropWhile isDig) point B s2) {b : Nat} (hb : unitBy (s2.takeWhile inUnit) = some b) : (s2.dropWhile inUnit).length < s.length := by
  have h1 := h.len
  have h2 := congrArg List.length (tw_dw s)
  rw [List.length_append] at h2
  have h3 := drop_len s2 (by intro e; rw [e] at hb; cases hb)
  omega

/-- all fraction's digits are 0 exactly if their number is -/
theorem zeros_val {B : List UInt8} (hB : digits B) : (B.all (· == 48) = true) ↔ dval B 0 = 0 := by
  induction B with
  | nil => exact ⟨fun _ => rfl, fun _ => rfl⟩
  | cons c B ih =>
    obtain ⟨h1, h2⟩ := digits_cons hB
    unfold isDig at h1
    simp at h1
    have e : dval (c :: B) 0 = (c.toNat - 48) * 10 ^ B.length + dval B 0 := by
      rw [dval_cons, dval_shift B (0 * 10 + (c.toNat - 48)), Nat.zero_mul, Nat.zero_add]
    rw [List.all_cons, Bool.and_eq_true, beq_iff_eq, ih h2, e]
    constructor
    · rintro ⟨rfl, h⟩
      rw [h]
      show 0 * 10 ^ B.length + 0 = 0
      rw [Nat.zero_mul]
    · intro h
      have hp : 0 < 10 ^ B.length := Nat.pow_pos (by decide)
      obtain ⟨h3, h5⟩ := Nat.add_eq_zero_iff.1 h
      rcases Nat.mul_eq_zero.1 h3 with h4 | h4
      · refine ⟨?_, h5⟩
        apply UInt8.toNat_inj.1
        show c.toNat = 48
        omega
      · omega

end Go.Proofs.YteejjhdfebhagaaDoor
