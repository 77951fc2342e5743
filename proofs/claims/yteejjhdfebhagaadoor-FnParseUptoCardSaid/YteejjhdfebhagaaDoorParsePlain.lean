/- Plain parsing of durations, as the code does it, over any way 'vf' of reckoning a fraction; and that it reads what the plain text str writes, where vf is exact. No program in sight. -/
import Derived.Test.YteejjhdfebhagaaDoorStrPlain
namespace Go.Proofs.YteejjhdfebhagaaDoor

def isDig (c : UInt8) : Bool := 48 ≤ c.toNat && c.toNat ≤ 57
def two63 : Nat := 9223372036854775808
def two64 : Nat := 18446744073709551616

/-- the digits at the beginning, as a number of at most 2^63 -/
def lint : List UInt8 → Nat → Option (Nat × List UInt8)
  | [], x => some (x, [])
  | c :: s, x =>
    if isDig c then
      if two63 / 10 < x then none
      else if two63 < x * 10 + (c.toNat - 48) then none
      else lint s (x * 10 + (c.toNat - 48))
    else some (x, c :: s)

/-- the digits of a fraction, how many of them count, and what is left -/
def lfrac : List UInt8 → Nat → Nat → Bool → Nat × Nat × List UInt8
  | [], x, k, _ => (x, k, [])
  | c :: s, x, k, ov =>
    if isDig c then
      if ov then lfrac s x k true
      else if (two63 - 1) / 10 < x then lfrac s x k true
      else if two63 < x * 10 + (c.toNat - 48) then lfrac s x k true
      else lfrac s (x * 10 + (c.toNat - 48)) (k + 1) false
    else (x, k, c :: s)

def inUnit (c : UInt8) : Bool := !(c == 46 || isDig c)

/-- the nanoseconds of a unit -/
def unitBy (u : List UInt8) : Option Nat :=
  if u = [110, 115] then some 1
  else if u = [117, 115] then some 1000
  else if u = [194, 181, 115] then some 1000
  else if u = [206, 188, 115] then some 1000
  else if u = [109, 115] then some 1000000
  else if u = [115] then some 1000000000
  else if u = [109] then some 60000000000
  else if u = [104] then some 3600000000000
  else none

/-- what stands behind the whole digits: the fraction's digits, how many count, the rest, and whether there was one -/
def part (s1 : List UInt8) : Nat × Nat × List UInt8 × Bool :=
  match s1 with
  | [] => (0, 0, [], false)
  | c :: t => if c == 46 then ((lfrac t 0 0 false).1, (lfrac t 0 0 false).2.1, (lfrac t 0 0 false).2.2, (lfrac t 0 0 false).2.2.length != t.length) else (0, 0, c :: t, false)

/-- a number and its unit added to d -/
def tally (vf : Nat → Nat → Nat → Nat) (v f k by_ d : Nat) : Option Nat :=
  if two63 / by_ < v then none
  else if 0 < f then
    if two63 < (v * by_ + vf f by_ k) % two64 then none
    else if two63 < (d + (v * by_ + vf f by_ k) % two64) % two64 then none
    else some ((d + (v * by_ + vf f by_ k) % two64) % two64)
  else if two63 < (d + v * by_) % two64 then none
  else some ((d + v * by_) % two64)

/-- behind the digits: the unit -/
def unitPart (vf : Nat → Nat → Nat → Nat) (v f k : Nat) (s2 : List UInt8) (d : Nat) : Option (Nat × List UInt8) :=
  if s2.takeWhile inUnit = [] then none
  else match unitBy (s2.takeWhile inUnit) with
    | none => none
    | some b => (tally vf v f k b d).map fun x => (x, s2.dropWhile inUnit)

/-- one number with its unit -/
def step (vf : Nat → Nat → Nat → Nat) (s : List UInt8) (d : Nat) : Option (Nat × List UInt8) :=
  match s with
  | [] => none
  | c :: _ =>
    if inUnit c then none
    else match lint s 0 with
      | none => none
      | some (v, s1) =>
        if s1.length == s.length && !(part s1).2.2.2 then none
        else unitPart vf v (part s1).1 (part s1).2.1 (part s1).2.2.1 d

/-- all numbers with their units -/
def ploop (vf : Nat → Nat → Nat → Nat) : Nat → List UInt8 → Nat → Option Nat
  | 0, s, d => if s = [] then some d else none
  | n + 1, s, d => if s = [] then some d else (step vf s d).bind fun x => ploop vf n x.2 x.1

/-- a sign, or none -/
def unsign (s : List UInt8) : Bool × List UInt8 :=
  match s with
  | [] => (false, [])
  | c :: t => if c == 45 then (true, t) else if c == 43 then (false, t) else (false, c :: t)

/-- the whole text -/
def parse (vf : Nat → Nat → Nat → Nat) (s0 : List UInt8) : Option Int :=
  let neg := (unsign s0).1
  let s := (unsign s0).2
  if s = [48] then some 0
  else if s = [] then none
  else match ploop vf s.length s 0 with
    | none => none
    | some d => if neg then some (-(d : Int)) else if two63 - 1 < d then none else some (d : Int)

/-! ### digits -/
def digits (l : List UInt8) : Prop := ∀ c ∈ l, isDig c = true
def dval (l : List UInt8) (x : Nat) : Nat := l.foldl (fun a c => a * 10 + (c.toNat - 48)) x

theorem dval_nil (x : Nat) : dval [] x = x := rfl
theorem dval_cons (c : UInt8) (l : List UInt8) (x : Nat) : dval (c :: l) x = dval l (x * 10 + (c.toNat - 48)) := by unfold dval; rw [List.foldl_cons]
theorem dval_append (a b : List UInt8) (x : Nat) : dval (a ++ b) x = dval b (dval a x) := by unfold dval; rw [List.foldl_append]
theorem dval_ge (l : List UInt8) (x : Nat) : x ≤ dval l x := by
  induction l generalizing x with
  | nil => exact Nat.le_refl _
  | cons c l ih => rw [dval_cons]; have := ih (x * 10 + (c.toNat - 48)); omega

theorem digits_cons {c : UInt8} {l : List UInt8} (h : digits (c :: l)) : isDig c = true ∧ digits l :=
  ⟨h c (by simp), fun x hx => h x (by simp [hx])⟩
theorem digits_append {a b : List UInt8} (ha : digits a) (hb : digits b) : digits (a ++ b) := by
  intro c hc
  rcases List.mem_append.1 hc with h | h
  · exact ha c h
  · exact hb c h
theorem digits_nil : digits [] := fun _ h => by cases h

theorem isDig_dg (n : Nat) : isDig (dg n) = true := by
  unfold isDig; rw [dg_toNat]; simp; omega

theorem digits_digs (n : Nat) : digits (digs n) := by
  induction n using Nat.strongRecOn with
  | ind n ih =>
    by_cases h : n = 0
    · subst h; rw [digs_zero]; exact digits_nil
    · rw [digs_pos h]
      exact digits_append (ih (n / 10) (by omega)) (by intro c hc; simp at hc; subst hc; exact isDig_dg n)

theorem dval_digs (n : Nat) : dval (digs n) 0 = n := by
  induction n using Nat.strongRecOn with
  | ind n ih =>
    by_cases h : n = 0
    · subst h; rw [digs_zero]; rfl
    · rw [digs_pos h, dval_append, ih (n / 10) (by omega), dval_cons, dval_nil, dg_toNat]
      omega

theorem digits_dec (n : Nat) : digits (dec n) := by
  unfold dec
  split
  · intro c hc; simp at hc; subst hc; rfl
  · exact digits_digs n
theorem dval_dec (n : Nat) : dval (dec n) 0 = n := by
  unfold dec
  split
  · rename_i h; subst h; rfl
  · exact dval_digs n
theorem dec_ne (n : Nat) : dec n ≠ [] := by
  intro h; have := dec_pos_len n; rw [h] at this; simp at this

/-- digits are read as they are -/
theorem lint_digits (l rest : List UInt8) (x : Nat) (hl : digits l) (hv : dval l x ≤ two63) : lint (l ++ rest) x = lint rest (dval l x) := by
  induction l generalizing x with
  | nil => rfl
  | cons c l ih =>
    obtain ⟨h1, h2⟩ := digits_cons hl
    rw [dval_cons] at hv ⊢
    have hge := dval_ge l (x * 10 + (c.toNat - 48))
    rw [List.cons_append, lint, if_pos h1]
    have a1 : ¬ two63 / 10 < x := by unfold two63 at *; omega
    have a2 : ¬ two63 < x * 10 + (c.toNat - 48) := by omega
    rw [if_neg a1, if_neg a2]
    exact ih _ h2 hv

theorem lint_over (l rest : List UInt8) (x : Nat) (hl : digits l) (hx : x ≤ two63) (hv : two63 < dval l x) : lint (l ++ rest) x = none := by
  induction l generalizing x with
  | nil => rw [dval_nil] at hv; omega
  | cons c l ih =>
    obtain ⟨h1, h2⟩ := digits_cons hl
    rw [dval_cons] at hv
    rw [List.cons_append, lint, if_pos h1]
    split
    · rfl
    · split
      · rfl
      · exact ih _ h2 (by omega) hv

/-- a text that does not begin with a digit -/
def noDig (s : List UInt8) : Prop := ∀ c t, s = c :: t → isDig c = false

theorem lint_stop {s : List UInt8} (h : noDig s) (x : Nat) : lint s x = some (x, s) := by
  cases s with
  | nil => rfl
  | cons c t => rw [lint, if_neg (by rw [h c t rfl]; decide)]

theorem lfrac_digits (l rest : List UInt8) (x k : Nat) (hl : digits l) (hv : dval l x < two63) : lfrac (l ++ rest) x k false = lfrac rest (dval l x) (k + l.length) false := by
  induction l generalizing x k with
  | nil => rfl
  | cons c l ih =>
    obtain ⟨h1, h2⟩ := digits_cons hl
    rw [dval_cons] at hv ⊢
    have hge := dval_ge l (x * 10 + (c.toNat - 48))
    rw [List.cons_append, lfrac, if_pos h1]
    have a1 : ¬ (two63 - 1) / 10 < x := by unfold two63 at *; omega
    have a2 : ¬ two63 < x * 10 + (c.toNat - 48) := by omega
    rw [if_neg (by decide), if_neg a1, if_neg a2, ih _ _ h2 hv]
    congr 1
    simp; omega

theorem lfrac_stop {s : List UInt8} (h : noDig s) (x k : Nat) (b : Bool) : lfrac s x k b = (x, k, s) := by
  cases s with
  | nil => rfl
  | cons c t => rw [lfrac, if_neg (by rw [h c t rfl]; decide)]

end Go.Proofs.YteejjhdfebhagaaDoor
