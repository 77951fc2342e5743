/- Plain laws on parsing: numbers with units and fractions, sums of them, signs, and texts that are none. No program in sight. -/
import Derived.Test.YteejjhdfebhagaaDoorParseStr
import Derived.Test.YteejjhdfebhagaaDoorParseHelp
namespace Go.Proofs.YteejjhdfebhagaaDoor

/-! ### the whole text -/
def posOf (r : Option Nat) : Option Int := r.bind fun d => if two63 - 1 < d then none else some (d : Int)
def negOf (r : Option Nat) : Option Int := r.map fun d => -(d : Int)
theorem posOf_if (X : Nat) : posOf (if X ≤ two63 then some X else none) = if X ≤ two63 - 1 then some (X : Int) else none := by
  by_cases h2 : X ≤ two63 - 1
  · rw [if_pos (by omega), if_pos h2]
    show (if two63 - 1 < X then none else some (X : Int)) = _
    rw [if_neg (by omega)]
  · rw [if_neg h2]
    by_cases h3 : X ≤ two63
    · rw [if_pos h3]
      show (if two63 - 1 < X then none else some (X : Int)) = _
      rw [if_pos (by omega)]
    · rw [if_neg h3]; rfl
theorem negOf_if (X : Nat) : negOf (if X ≤ two63 then some X else none) = if X ≤ two63 then some (-(X : Int)) else none := by
  by_cases h3 : X ≤ two63
  · rw [if_pos h3, if_pos h3]; rfl
  · rw [if_neg h3, if_neg h3]; rfl
theorem parse_plain {vf : Nat → Nat → Nat → Nat} {t : List UInt8} {r : Option Nat} (hs : unsign t = (false, t)) (h0 : t ≠ [48]) (h1 : t ≠ []) (h : pl vf t 0 = r) : parse vf t = posOf r := by
  subst h
  cases h2 : pl vf t 0 with
  | none => exact parse_none hs h0 h1 h2
  | some d =>
    show _ = if two63 - 1 < d then none else some (d : Int)
    split
    · rename_i h3; exact parse_big hs h0 h1 h2 h3
    · rename_i h3; exact parse_pos hs h0 h1 h2 (by omega)
theorem parse_plus {vf : Nat → Nat → Nat → Nat} {t : List UInt8} {r : Option Nat} (h0 : t ≠ [48]) (h1 : t ≠ []) (h : pl vf t 0 = r) : parse vf (43 :: t) = posOf r := by
  subst h
  have hs : unsign (43 :: t) = (false, t) := rfl
  cases h2 : pl vf t 0 with
  | none => exact parse_none hs h0 h1 h2
  | some d =>
    show _ = if two63 - 1 < d then none else some (d : Int)
    split
    · rename_i h3; exact parse_big hs h0 h1 h2 h3
    · rename_i h3; exact parse_pos hs h0 h1 h2 (by omega)
theorem parse_minus {vf : Nat → Nat → Nat → Nat} {t : List UInt8} {r : Option Nat} (h0 : t ≠ [48]) (h1 : t ≠ []) (h : pl vf t 0 = r) : parse vf (45 :: t) = negOf r := by
  subst h
  have hs : unsign (45 :: t) = (true, t) := rfl
  cases h2 : pl vf t 0 with
  | none => exact parse_none hs h0 h1 h2
  | some d => exact parse_neg hs h0 h1 h2

theorem unsign_dot (t : List UInt8) : unsign (46 :: t) = (false, 46 :: t) := rfl
theorem unsign_app {A : List UInt8} (hA : digits A) (h0 : A ≠ []) (t : List UInt8) : unsign (A ++ t) = (false, A ++ t) := by
  cases A with
  | nil => exact absurd rfl h0
  | cons c A' => exact unsign_digit (digits_cons hA).1
theorem long_of {A t : List UInt8} (hA : A ≠ []) (ht : t ≠ []) : A ++ t ≠ [48] ∧ A ++ t ≠ [] := by
  have h1 := List.length_pos_iff.2 hA
  have h2 := List.length_pos_iff.2 ht
  constructor
  · intro e; have := congrArg List.length e; rw [List.length_append, List.length_singleton] at this; omega
  · intro e; have := congrArg List.length e; rw [List.length_append, List.length_nil] at this; omega

/-! ### a piece of text that adds X nanoseconds -/
def Adds (vf : Nat → Nat → Nat → Nat) (s : List UInt8) (X : Nat) : Prop :=
  ∀ (d : Nat) (rest : List UInt8), noUnit rest → d ≤ two63 → d + X < two64 → pl vf (s ++ rest) d = if d + X ≤ two63 then pl vf rest (d + X) else none

def noU (s : List UInt8) : Prop := ∃ c t, s = c :: t ∧ inUnit c = false
theorem noU.app {s : List UInt8} (h : noU s) (rest : List UInt8) : noUnit (s ++ rest) := by
  obtain ⟨c, t, rfl, hc⟩ := h
  intro c' t' e
  simp at e
  obtain ⟨rfl, _⟩ := e
  exact hc
theorem noU_digits {A : List UInt8} (hA : digits A) (h0 : A ≠ []) (t : List UInt8) : noU (A ++ t) := by
  cases A with
  | nil => exact absurd rfl h0
  | cons c A' => exact ⟨c, A' ++ t, rfl, dig_noUnit (digits_cons hA).1⟩

theorem Adds.app {vf : Nat → Nat → Nat → Nat} {s t : List UInt8} {X Y : Nat} (hs : Adds vf s X) (ht : Adds vf t Y) (hn : noU t) : Adds vf (s ++ t) (X + Y) := by
  intro d rest hr hd hb
  rw [List.append_assoc, hs d (t ++ rest) (hn.app rest) hd (by omega)]
  by_cases h : d + X ≤ two63
  · rw [if_pos h, ht (d + X) rest hr h (by omega)]
    by_cases h2 : d + X + Y ≤ two63
    · rw [if_pos h2, if_pos (by omega), Nat.add_assoc]
    · rw [if_neg h2, if_neg (by omega)]
  · rw [if_neg h, if_neg (by omega)]

theorem step_ne {s : List UInt8} (h : noU s) : s ≠ [] := by
  obtain ⟨c, t, rfl, _⟩ := h; exact List.cons_ne_nil _ _

theorem adds_of_step {vf : Nat → Nat → Nat → Nat} {s : List UInt8} {X : Nat} (hs : noU s) (h : ∀ d rest, noUnit rest → step vf (s ++ rest) d = (fin d X).map fun x => (x, rest)) : Adds vf s X := by
  intro d rest hr hd hb
  have h1 := h d rest hr
  by_cases h2 : d + X ≤ two63
  · rw [if_pos h2]
    rw [fin_ok h2] at h1
    exact pl_some h1
  · rw [if_neg h2]
    rw [fin_big (by omega) hb] at h1
    exact pl_none (by obtain ⟨c, t, rfl, _⟩ := hs; exact List.cons_ne_nil _ _) h1

/-- whole numbers with a unit -/
theorem adds_whole (vf : Nat → Nat → Nat → Nat) {A u : List UInt8} {b : Nat} (hA : digits A) (hA0 : A ≠ []) (h0 : u ≠ []) (hu : units u) (hb : unitBy u = some b) (hb0 : 0 < b) (hv : dval A 0 * b ≤ two63) : Adds vf (A ++ u) (dval A 0 * b) := by
  have hov : ¬ two63 / b < dval A 0 := by
    intro hlt
    have := (Nat.div_lt_iff_lt_mul hb0).1 hlt
    omega
  have hv1 : dval A 0 ≤ two63 := by
    have : dval A 0 * 1 ≤ dval A 0 * b := Nat.mul_le_mul_left _ hb0
    omega
  refine adds_of_step (noU_digits hA hA0 u) fun d rest hr => ?_
  rw [List.append_assoc, step_whole vf A u rest d b hA hA0 hv1 h0 hu hr hb, tally_f0 hov]
/-- numbers with a point and a unit -/
theorem adds_point (vf : Nat → Nat → Nat → Nat) {A B u : List UInt8} {b x : Nat} (hA : digits A) (hB : digits B) (hAB : A ≠ [] ∨ B ≠ []) (h0 : u ≠ []) (hu : units u) (hb : unitBy u = some b) (hb0 : 0 < b) (hf : dval B 0 < two63) (hx : dval B 0 = 0 ∧ x = 0 ∨ 0 < dval B 0 ∧ vf (dval B 0) b B.length = x) (hv : dval A 0 * b + x ≤ two63) :
    Adds vf (A ++ (46 :: (B ++ u))) (dval A 0 * b + x) := by
  have hov : ¬ two63 / b < dval A 0 := by
    intro hlt
    have := (Nat.div_lt_iff_lt_mul hb0).1 hlt
    omega
  have hv1 : dval A 0 ≤ two63 := by
    have : dval A 0 * 1 ≤ dval A 0 * b := Nat.mul_le_mul_left _ hb0
    omega
  refine adds_of_step ?_ fun d rest hr => ?_
  · cases A with
    | nil => exact ⟨46, B ++ u, rfl, by decide⟩
    | cons c A' => exact ⟨c, _, rfl, dig_noUnit (digits_cons hA).1⟩
  · have e : A ++ (46 :: (B ++ u)) ++ rest = A ++ (46 :: (B ++ (u ++ rest))) := by simp
    rw [e, step_point vf A B u rest d b hA hB hAB hv1 hf h0 hu hr hb]
    rcases hx with ⟨h1, h2⟩ | ⟨h1, h2⟩
    · rw [h1, tally_f0 hov, h2, Nat.add_zero]
    · rw [tally_fok hov h1 (by rw [h2]; exact hv), h2]

/-- the pieces of a whole text -/
theorem Adds.pl {vf : Nat → Nat → Nat → Nat} {s : List UInt8} {X : Nat} (h : Adds vf s X) (hb : X < two64) : Go.Proofs.YteejjhdfebhagaaDoor.pl vf s 0 = if X ≤ two63 then some X else none := by
  have := h 0 [] noUnit_nil (Nat.zero_le _) (by omega)
  rw [List.append_nil, Nat.zero_add] at this
  rw [this]
  rfl

theorem Adds.parse {vf : Nat → Nat → Nat → Nat} {s : List UInt8} {X : Nat} (h : Adds vf s X) (hb : X < two64) (hs : unsign s = (false, s)) (h0 : s ≠ [48]) (h1 : s ≠ []) : Go.Proofs.YteejjhdfebhagaaDoor.parse vf s = if X ≤ two63 - 1 then some (X : Int) else none := by
  rw [parse_plain hs h0 h1 (h.pl hb)]
  exact posOf_if _
theorem Adds.parsePlus {vf : Nat → Nat → Nat → Nat} {s : List UInt8} {X : Nat} (h : Adds vf s X) (hb : X < two64) (h0 : s ≠ [48]) (h1 : s ≠ []) : Go.Proofs.YteejjhdfebhagaaDoor.parse vf (43 :: s) = if X ≤ two63 - 1 then some (X : Int) else none := by
  rw [parse_plus h0 h1 (h.pl hb)]
  exact posOf_if _
theorem Adds.parseMinus {vf : Nat → Nat → Nat → Nat} {s : List UInt8} {X : Nat} (h : Adds vf s X) (hb : X < two64) (h0 : s ≠ [48]) (h1 : s ≠ []) : Go.Proofs.YteejjhdfebhagaaDoor.parse vf (45 :: s) = if X ≤ two63 then some (-(X : Int)) else none := by
  rw [parse_minus h0 h1 (h.pl hb)]
  exact negOf_if _

/-- a number of units that is too great -/
theorem pl_great (vf : Nat → Nat → Nat → Nat) {A u : List UInt8} {b d : Nat} (hA : digits A) (hA0 : A ≠ []) (h0 : u ≠ []) (hu : units u) (hb : unitBy u = some b) (hb0 : 0 < b) (hv : two63 < dval A 0 * b) : pl vf (A ++ u) d = none := by
  have hov : two63 / b < dval A 0 := (Nat.div_lt_iff_lt_mul hb0).2 hv
  refine pl_none ?_ ?_
  · cases A with
    | nil => exact absurd rfl hA0
    | cons c A' => exact List.cons_ne_nil _ _
  · by_cases hv1 : dval A 0 ≤ two63
    · have := step_whole vf A u [] d b hA hA0 hv1 h0 hu noUnit_nil hb
      rw [List.append_nil] at this
      rw [this, tally_over hov]
      rfl
    · obtain ⟨c, A', rfl⟩ : ∃ c A', A = c :: A' := by
        cases A with
        | nil => exact absurd rfl hA0
        | cons c A' => exact ⟨c, A', rfl⟩
      rw [List.cons_append]
      refine step_nolint (dig_noUnit (digits_cons hA).1) ?_
      rw [← List.cons_append]
      exact lint_over (c :: A') u 0 hA (Nat.zero_le _) (by omega)

/-- A NUMBER AND A UNIT. -/
theorem pl_num (vf : Nat → Nat → Nat → Nat) {A u : List UInt8} {b : Nat} (hA : digits A) (hA0 : A ≠ []) (h0 : u ≠ []) (hu : units u) (hb : unitBy u = some b) (hb0 : 0 < b) : pl vf (A ++ u) 0 = if dval A 0 * b ≤ two63 then some (dval A 0 * b) else none := by
  by_cases hv : dval A 0 * b ≤ two63
  · exact (adds_whole vf hA hA0 h0 hu hb hb0 hv).pl (by unfold two63 at hv; unfold two64; omega)
  · rw [if_neg hv]
    exact pl_great vf hA hA0 h0 hu hb hb0 (by omega)
theorem num_plain (vf : Nat → Nat → Nat → Nat) {A u : List UInt8} {b : Nat} (hA : digits A) (hA0 : A ≠ []) (h0 : u ≠ []) (hu : units u) (hb : unitBy u = some b) (hb0 : 0 < b) : parse vf (A ++ u) = if dval A 0 * b ≤ two63 - 1 then some ((dval A 0 * b : Nat) : Int) else none := by
  obtain ⟨l1, l2⟩ := long_of hA0 h0
  rw [parse_plain (unsign_app hA hA0 u) l1 l2 (pl_num vf hA hA0 h0 hu hb hb0)]
  exact posOf_if _
theorem num_plus (vf : Nat → Nat → Nat → Nat) {A u : List UInt8} {b : Nat} (hA : digits A) (hA0 : A ≠ []) (h0 : u ≠ []) (hu : units u) (hb : unitBy u = some b) (hb0 : 0 < b) : parse vf (43 :: (A ++ u)) = if dval A 0 * b ≤ two63 - 1 then some ((dval A 0 * b : Nat) : Int) else none := by
  obtain ⟨l1, l2⟩ := long_of hA0 h0
  rw [parse_plus l1 l2 (pl_num vf hA hA0 h0 hu hb hb0)]
  exact posOf_if _
theorem num_minus (vf : Nat → Nat → Nat → Nat) {A u : List UInt8} {b : Nat} (hA : digits A) (hA0 : A ≠ []) (h0 : u ≠ []) (hu : units u) (hb : unitBy u = some b) (hb0 : 0 < b) : parse vf (45 :: (A ++ u)) = if dval A 0 * b ≤ two63 then some (-((dval A 0 * b : Nat) : Int)) else none := by
  obtain ⟨l1, l2⟩ := long_of hA0 h0
  rw [parse_minus l1 l2 (pl_num vf hA hA0 h0 hu hb hb0)]
  exact negOf_if _

/-! ### the units by their numbers -/
def uname : Nat → List UInt8
  | 0 => [110, 115]
  | 1 => [117, 115]
  | 2 => [194, 181, 115]
  | 3 => [206, 188, 115]
  | 4 => [109, 115]
  | 5 => [115]
  | 6 => [109]
  | _ => [104]
def uby : Nat → Nat
  | 0 => 1
  | 1 => 1000
  | 2 => 1000
  | 3 => 1000
  | 4 => 1000000
  | 5 => 1000000000
  | 6 => 60000000000
  | _ => 3600000000000
theorem upto7 {k : Nat} (h : k ≤ 7) : k = 0 ∨ k = 1 ∨ k = 2 ∨ k = 3 ∨ k = 4 ∨ k = 5 ∨ k = 6 ∨ k = 7 := by omega
theorem uname_ne {k : Nat} (h : k ≤ 7) : uname k ≠ [] := by
  rcases upto7 h with h | h | h | h | h | h | h | h <;> subst h <;> decide
theorem uname_units {k : Nat} (h : k ≤ 7) : units (uname k) := by
  rcases upto7 h with h | h | h | h | h | h | h | h <;> subst h <;> exact units_of (by decide)
theorem uname_by {k : Nat} (h : k ≤ 7) : unitBy (uname k) = some (uby k) := by
  rcases upto7 h with h | h | h | h | h | h | h | h <;> subst h <;> decide
theorem uby_pos (k : Nat) : 0 < uby k := by
  unfold uby; split <;> decide
theorem uby_is {k : Nat} (h : k ≤ 7) : isUnit (uby k) := unitBy_is (uname_by h)
theorem uby_le (k : Nat) : uby k ≤ 3600000000000 := by
  unfold uby; split <;> decide
theorem uname_len (k : Nat) : 1 ≤ (uname k).length ∧ (uname k).length ≤ 3 := by
  unfold uname; split <;> decide

end Go.Proofs.YteejjhdfebhagaaDoor
