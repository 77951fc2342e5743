/- Plain facts for the walk of time.ParseDuration: the ends of the plain parse, and the words of the loop's relation. -/
import Derived.Test.YteejjhdfebhagaaDoorFracW
import Derived.Test.YteejjhdfebhagaaDoorUnitW
import Derived.Test.YteejjhdfebhagaaDoorParseStr
import Derived.WalkSmall
namespace Go.Proofs.YteejjhdfebhagaaDoor
open Go.ChangeShapes Go.WideShapes Go.ChangeAt Go.RowKit
set_option linter.unusedVariables false

/-- what ParseDuration returns -/
def ParsePost (vf : Nat → Nat → Nat → Nat) (l : List UInt8) (w : World) (e : Ending) (w' : World) : Prop :=
  Below w.heap.size w w' ∧ ((∃ d : Int, parse vf l = some d ∧ e = .returned (.tuple #[.int .i64 d, .nilIface])) ∨ (parse vf l = none ∧ ∃ t v, e = .returned (.tuple #[.int .i64 0, .iface t v])))

def strLen (v : Value) : Nat := match v with
  | .string s => s.size
  | _ => 0

theorem empty_no {s : ByteArray} (h : 0 < s.size) : (!s.toList.isEmpty) = true := by
  rw [ByteArray.toList_eq]
  cases hh : s.data.toList with
  | nil => have := list_len s; rw [hh] at this; simp at this; omega
  | cons a l => rfl
theorem empty_is {s : ByteArray} (h : s.size = 0) : s = ⟨#[]⟩ := by
  have e : s.data.toList = [] := List.eq_nil_of_length_eq_zero (by rw [list_len]; exact h)
  rw [← bs_of s, e]
  rfl
theorem empty_yes {s : ByteArray} (h : s.size = 0) : (!s.toList.isEmpty) = false := by
  rw [empty_is h, ByteArray.toList_eq]; rfl
theorem unsign_cons {l t : List UInt8} {c : UInt8} (h : l = c :: t) : unsign l = if c == 45 then (true, t) else if c == 43 then (false, t) else (false, c :: t) := by
  subst h; rfl

/-! ### the ends -/
theorem parse_zero {vf : Nat → Nat → Nat → Nat} {l r : List UInt8} {b : Bool} (h : unsign l = (b, r)) (h0 : r = [48]) : parse vf l = some 0 := by
  unfold parse; rw [h]; dsimp only; rw [if_pos h0]
theorem parse_empty {vf : Nat → Nat → Nat → Nat} {l r : List UInt8} {b : Bool} (h : unsign l = (b, r)) (h0 : r = []) : parse vf l = none := by
  unfold parse; rw [h]; dsimp only; rw [if_neg (by rw [h0]; decide), if_pos h0]
theorem parse_none {vf : Nat → Nat → Nat → Nat} {l r : List UInt8} {b : Bool} (h : unsign l = (b, r)) (h0 : r ≠ [48]) (h1 : r ≠ []) (h2 : pl vf r 0 = none) : parse vf l = none := by
  unfold parse; rw [h]; dsimp only; rw [if_neg h0, if_neg h1]; unfold pl at h2; rw [h2]
theorem parse_neg {vf : Nat → Nat → Nat → Nat} {l r : List UInt8} {d : Nat} (h : unsign l = (true, r)) (h0 : r ≠ [48]) (h1 : r ≠ []) (h2 : pl vf r 0 = some d) : parse vf l = some (-(d : Int)) := by
  unfold parse; rw [h]; dsimp only; rw [if_neg h0, if_neg h1]; unfold pl at h2; rw [h2]; rfl
theorem parse_big {vf : Nat → Nat → Nat → Nat} {l r : List UInt8} {d : Nat} (h : unsign l = (false, r)) (h0 : r ≠ [48]) (h1 : r ≠ []) (h2 : pl vf r 0 = some d) (h3 : two63 - 1 < d) : parse vf l = none := by
  unfold parse; rw [h]; dsimp only; rw [if_neg h0, if_neg h1]; unfold pl at h2; rw [h2]; dsimp only; rw [if_neg (by decide), if_pos h3]
theorem parse_pos {vf : Nat → Nat → Nat → Nat} {l r : List UInt8} {d : Nat} (h : unsign l = (false, r)) (h0 : r ≠ [48]) (h1 : r ≠ []) (h2 : pl vf r 0 = some d) (h3 : d ≤ two63 - 1) : parse vf l = some (d : Int) := by
  unfold parse; rw [h]; dsimp only; rw [if_neg h0, if_neg h1]; unfold pl at h2; rw [h2]; dsimp only; rw [if_neg (by decide), if_neg (by omega)]

theorem tl (t : ByteArray) : t.toList = t.data.toList := ByteArray.toList_eq _

/-- what holds at the head of each round -/
def PRel (vf : Nat → Nat → Nat → Nat) (t : ByteArray) (w : World) (gk : Nat) (x0 x5 : Value) (wr : World) : Prop :=
  ∃ (r : ByteArray) (d : Int) (n : Nat), r.size ≤ gk ∧ r.size ≤ 2000000 ∧ 0 ≤ d ∧ d ≤ 9223372036854775808 ∧ pl vf t.data.toList 0 = pl vf r.data.toList d.toNat ∧ x0 = .string r ∧ x5 = .int .u64 d ∧ wr = w.drewN n

theorem below_draw (w : World) (n : Nat) : Below w.heap.size w (w.drewN n) := below_drewN (Below.refl _ _) n

theorem inUnit_46 {c : UInt8} (h : c.toNat = 46) : inUnit c = false := by
  obtain rfl : c = 46 := by apply UInt8.toNat_inj.1; rw [h]; rfl
  rfl
theorem inUnit_dig {c : UInt8} (h : 48 ≤ c.toNat) (h2 : c.toNat ≤ 57) : inUnit c = false := by
  unfold inUnit isDig; simp [h, h2]
theorem inUnit_yes {c : UInt8} (h : ¬ c.toNat = 46) (h2 : ¬ (48 ≤ c.toNat ∧ c.toNat ≤ 57)) : inUnit c = true := by
  have h3 : (c == 46) = false := by rw [beq_eq_false_iff_ne]; intro e; subst e; exact h rfl
  unfold inUnit isDig; rw [h3]; simp; omega
theorem step_unit {vf : Nat → Nat → Nat → Nat} {c : UInt8} {t : List UInt8} {d : Nat} (h : inUnit c = true) : step vf (c :: t) d = none := by
  unfold step; dsimp only; rw [if_pos h]

theorem step_nolint {vf : Nat → Nat → Nat → Nat} {c : UInt8} {t : List UInt8} {d : Nat} (h : inUnit c = false) (h2 : lint (c :: t) 0 = none) : step vf (c :: t) d = none := by
  unfold step; dsimp only; rw [h, if_neg (by decide), h2]

/-- the text begins with a point -/
def head46 : List UInt8 → Bool
  | [] => false
  | c :: _ => c == 46
theorem head46_pos {l : List UInt8} (h : head46 l = true) : 0 < l.length := by
  cases l with
  | nil => cases h
  | cons c t => simp
theorem head46_yes {l : List UInt8} (h : head46 l = true) : l = 46 :: l.drop 1 := by
  cases l with
  | nil => cases h
  | cons c t =>
    have : c = 46 := by unfold head46 at h; simpa using h
    rw [this]; rfl
theorem part_point (t : List UInt8) : part (46 :: t) = ((lfrac t 0 0 false).1, (lfrac t 0 0 false).2.1, (lfrac t 0 0 false).2.2, (lfrac t 0 0 false).2.2.length != t.length) := by
  unfold part; dsimp only; rw [if_pos (by decide)]
theorem part_no {l : List UInt8} (h : head46 l = false) : part l = (0, 0, l, false) := by
  cases l with
  | nil => rfl
  | cons c t =>
    have h' : (c == 46) = false := h
    unfold part; dsimp only; rw [h']; rfl


theorem step_nodig {vf : Nat → Nat → Nat → Nat} {c : UInt8} {t s1 : List UInt8} {v d : Nat} (h : inUnit c = false) (h2 : lint (c :: t) 0 = some (v, s1)) (h3 : (s1.length == (c :: t).length && !(part s1).2.2.2) = true) : step vf (c :: t) d = none := by
  unfold step; dsimp only; rw [h, if_neg (by decide), h2]; dsimp only; rw [if_pos h3]
theorem step_go {vf : Nat → Nat → Nat → Nat} {c : UInt8} {t s1 r2 : List UInt8} {v d f k : Nat} {po : Bool} (h : inUnit c = false) (h2 : lint (c :: t) 0 = some (v, s1)) (hp : part s1 = (f, k, r2, po)) (h3 : (s1.length == (c :: t).length && !po) = false) : step vf (c :: t) d = unitPart vf v f k r2 d := by
  unfold step; dsimp only; rw [h, if_neg (by decide), h2]; dsimp only; rw [hp]; dsimp only; rw [h3]; rfl

theorem tw_yes {c : UInt8} {t : List UInt8} (h : inUnit c = true) : ((c :: t).takeWhile inUnit).length = 1 + (t.takeWhile inUnit).length := by
  rw [List.takeWhile_cons, if_pos h, List.length_cons]; omega
theorem tw_no {c : UInt8} {t : List UInt8} (h : inUnit c = false) : ((c :: t).takeWhile inUnit).length = 0 := by
  rw [List.takeWhile_cons, h]; rfl

theorem take_app (a b : List UInt8) : (a ++ b).take a.length = a := by rw [List.take_append_of_le_length (Nat.le_refl _), List.take_length]
theorem drop_app (a b : List UInt8) : (a ++ b).drop a.length = b := by rw [List.drop_append_of_le_length (Nat.le_refl _), List.drop_length, List.nil_append]
theorem take_tw (l : List UInt8) : l.take (l.takeWhile inUnit).length = l.takeWhile inUnit := by
  have h := take_app (l.takeWhile inUnit) (l.dropWhile inUnit)
  rwa [List.takeWhile_append_dropWhile] at h
theorem drop_tw (l : List UInt8) : l.drop (l.takeWhile inUnit).length = l.dropWhile inUnit := by
  have h := drop_app (l.takeWhile inUnit) (l.dropWhile inUnit)
  rwa [List.takeWhile_append_dropWhile] at h

/-- what quote returns -/
def QuotePost (u : ByteArray) (w : World) (e : Ending) (w' : World) : Prop :=
  Below w.heap.size w w' ∧ ∃ q : ByteArray, q.size ≤ 16 * u.size + 2 ∧ e = .returned (.string q)
def QuoteOk : Prop := ∀ (u : ByteArray) (w : World), u.size ≤ 2000000 → Calls Tryd.prog 39 #[.string u] w (QuotePost u w)

def isUnit (b : Nat) : Prop := b = 1 ∨ b = 1000 ∨ b = 1000000 ∨ b = 1000000000 ∨ b = 60000000000 ∨ b = 3600000000000
theorem unitBy_is {u : List UInt8} {b : Nat} (h : unitBy u = some b) : isUnit b := by
  unfold unitBy at h
  unfold isUnit
  repeat' split at h
  all_goals simp at h
  all_goals omega

theorem lfrac_lt (l : List UInt8) : ∀ (x k : Nat) (ov : Bool), x < 10 ^ k → (lfrac l x k ov).1 < 10 ^ (lfrac l x k ov).2.1 := by
  induction l with
  | nil => intro x k ov h; exact h
  | cons c l ih =>
    intro x k ov h
    rw [lfrac]
    split
    · rename_i hd
      split
      · exact ih x k true h
      · split
        · exact ih x k true h
        · split
          · exact ih x k true h
          · refine ih _ _ _ ?_
            unfold isDig at hd
            simp at hd
            rw [Nat.pow_succ]
            omega
    · exact h
theorem part_lt (l : List UInt8) : (part l).1 < 10 ^ (part l).2.1 := by
  unfold part
  split
  · decide
  · split
    · exact lfrac_lt _ 0 0 false (by decide)
    · show 0 < 10 ^ 0
      decide
theorem bne_int (a b : Nat) : (a != b) = ((b : Int) != (a : Int)) := by
  rw [Bool.eq_iff_iff, bne_iff_ne, bne_iff_ne]; omega

/-- what is left of adding a number to the sum -/
def fin (d V : Nat) : Option Nat := if two63 < (d + V) % two64 then none else some ((d + V) % two64)
theorem over_no {v b : Nat} (hb : 0 < b) (h : ¬ two63 / b < v) : v * b ≤ two63 := by
  have := Nat.div_mul_le_self two63 b
  have h2 : v * b ≤ two63 / b * b := Nat.mul_le_mul_right _ (by omega)
  omega
theorem tally_over {vf : Nat → Nat → Nat → Nat} {v f k b d : Nat} (h : two63 / b < v) : tally vf v f k b d = none := by
  unfold tally; rw [if_pos h]
theorem tally_f0 {vf : Nat → Nat → Nat → Nat} {v k b d : Nat} (h : ¬ two63 / b < v) : tally vf v 0 k b d = fin d (v * b) := by
  unfold tally; rw [if_neg h, if_neg (by omega)]; rfl
theorem tally_fbig {vf : Nat → Nat → Nat → Nat} {v f k b d : Nat} (h : ¬ two63 / b < v) (hf : 0 < f) (h1 : two63 < v * b + vf f b k) (h2 : v * b + vf f b k < two64) : tally vf v f k b d = none := by
  unfold tally; rw [if_neg h, if_pos hf, Nat.mod_eq_of_lt h2, if_pos h1]
theorem tally_fok {vf : Nat → Nat → Nat → Nat} {v f k b d : Nat} (h : ¬ two63 / b < v) (hf : 0 < f) (h1 : v * b + vf f b k ≤ two63) : tally vf v f k b d = fin d (v * b + vf f b k) := by
  unfold tally; rw [if_neg h, if_pos hf, Nat.mod_eq_of_lt (by unfold two63 at h1; unfold two64; omega), if_neg (by omega)]; rfl
theorem fin_big {d V : Nat} (h : two63 < d + V) (h2 : d + V < two64) : fin d V = none := by
  unfold fin; rw [Nat.mod_eq_of_lt h2, if_pos h]
theorem fin_ok {d V : Nat} (h : d + V ≤ two63) : fin d V = some (d + V) := by
  unfold fin; rw [Nat.mod_eq_of_lt (by unfold two63 at h; unfold two64; omega), if_neg (by omega)]
theorem fin_wrap {d V : Nat} (h : d + V = two64) : fin d V = some 0 := by
  unfold fin; rw [h, Nat.mod_self, if_neg (by decide)]

/-- vf is what the model reckons -/
def Reck (vf : Nat → Nat → Nat → Nat) : Prop := ∀ f b k : Nat, f ≤ two63 → f < 10 ^ k → isUnit b →
  ∃ q p, floatBits .quo .f64 (floatOfInt .f64 (b : Int)) (sc k) = some q ∧ floatBits .mul .f64 (floatOfInt .f64 (f : Int)) q = some p ∧ floatToIntVal .f64 p .u64 = some ((vf f b k : Nat) : Int) ∧ vf f b k ≤ 4611686018427387904

theorem unitPart_some {vf : Nat → Nat → Nat → Nat} {v f k d B : Nat} {l : List UInt8} (h0 : l.takeWhile inUnit ≠ []) (h : unitBy (l.takeWhile inUnit) = some B) : unitPart vf v f k l d = (tally vf v f k B d).map fun x => (x, l.dropWhile inUnit) := by
  unfold unitPart; rw [if_neg h0, h]

end Go.Proofs.YteejjhdfebhagaaDoor
