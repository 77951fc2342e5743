/- Plain facts on the shape of the text of a duration: its first and last bytes, the bytes it is made of, at most one point. No program in sight. -/
import Derived.Test.YtkagbpnmdflhjaaParseStr
namespace Go.Proofs.Ytkagbpnmdflhjaa
set_option linter.unusedVariables false

def okByte (c : UInt8) : Bool := c == 46 || isDig c || c == 104 || c == 109 || c == 115 || c == 110

def shape (l : List UInt8) : Prop := ∀ i (h : i < l.length), okByte l[i] = true ∨ (l[i] = 194 ∧ l[i + 1]? = some 181) ∨ (l[i] = 181 ∧ ∃ j, i = j + 1 ∧ l[j]? = some 194)

theorem shape_all {l : List UInt8} (h : ∀ c ∈ l, okByte c = true) : shape l := fun i hi => Or.inl (h _ (List.getElem_mem hi))

theorem shape_micro {A : List UInt8} (h : ∀ c ∈ A, okByte c = true) : shape (A ++ [194, 181, 115]) := by
  intro i hi
  rcases Nat.lt_or_ge i A.length with hlt | hge
  · left
    rw [List.getElem_append_left hlt]
    exact h _ (List.getElem_mem hlt)
  · have hi' : i < A.length + 3 := by simpa using hi
    rcases (show i = A.length ∨ i = A.length + 1 ∨ i = A.length + 2 by omega) with rfl | rfl | rfl
    · right; left
      constructor
      · rw [List.getElem_append_right (Nat.le_refl _)]; simp
      · rw [List.getElem?_append_right (by omega)]; simp
    · right; right
      constructor
      · rw [List.getElem_append_right (by omega)]; simp
      · exact ⟨A.length, rfl, by rw [List.getElem?_append_right (Nat.le_refl _)]; simp⟩
    · left
      rw [List.getElem_append_right (by omega)]
      simp [okByte]

theorem ok_digits {l : List UInt8} (h : digits l) : ∀ c ∈ l, okByte c = true := by
  intro c hc
  unfold okByte
  rw [h c hc]; simp
theorem ok_frac (v i : Nat) : ∀ c ∈ frac v i, okByte c = true := by
  unfold frac
  split
  · intro c hc; cases hc
  · intro c hc
    rcases List.mem_cons.1 hc with rfl | h
    · rfl
    · exact ok_digits (digits_frs v i) c h
theorem ok_append {a b : List UInt8} (ha : ∀ c ∈ a, okByte c = true) (hb : ∀ c ∈ b, okByte c = true) : ∀ c ∈ a ++ b, okByte c = true := by
  intro c hc
  rcases List.mem_append.1 hc with h | h
  · exact ha c h
  · exact hb c h
theorem ok_lit {l : List UInt8} (h : l.all okByte = true) : ∀ c ∈ l, okByte c = true := fun c hc => List.all_eq_true.1 h c hc

theorem strU_shape (n : Nat) : shape (strU n) := by
  have hd := fun m => ok_digits (digits_dec m)
  unfold strU
  split
  · exact shape_all (ok_lit (by decide))
  · split
    · exact shape_all (ok_append (hd _) (ok_lit (by decide)))
    · split
      · rw [← List.append_assoc]
        exact shape_micro (ok_append (hd _) (ok_frac _ _))
      · split
        · exact shape_all (ok_append (hd _) (ok_append (ok_frac _ _) (ok_lit (by decide))))
        · dsimp only
          have tl := fun m => ok_append (hd m) (ok_append (ok_frac n 9) (ok_lit (l := [115]) (by decide)))
          refine shape_all (ok_append ?_ (ok_append ?_ (tl _)))
          · split
            · exact ok_lit (by decide)
            · exact ok_append (hd _) (ok_lit (by decide))
          · split
            · exact ok_lit (by decide)
            · exact ok_append (hd _) (ok_lit (by decide))

theorem count_digits {l : List UInt8} (h : digits l) : l.count 46 = 0 := by
  rw [List.count_eq_zero]
  intro hc
  have := h 46 hc
  exact absurd this (by decide)
theorem count_frac (v i : Nat) : (frac v i).count 46 ≤ 1 := by
  unfold frac
  split
  · simp
  · rw [List.count_cons, count_digits (digits_frs v i)]
    simp

theorem strU_count (n : Nat) : (strU n).count 46 ≤ 1 := by
  have hd := fun m => count_digits (digits_dec m)
  have hf := count_frac n
  unfold strU
  split
  · decide
  · split
    · rw [List.count_append, hd]; decide
    · split
      · rw [List.count_append, List.count_append, hd]
        have := hf 3
        have : List.count (46 : UInt8) [194, 181, 115] = 0 := by decide
        omega
      · split
        · rw [List.count_append, List.count_append, hd]
          have := hf 6
          have : List.count (46 : UInt8) [109, 115] = 0 := by decide
          omega
        · dsimp only
          have c1 : List.count (46 : UInt8) [115] = 0 := by decide
          have c2 : List.count (46 : UInt8) [109] = 0 := by decide
          have c3 : List.count (46 : UInt8) [104] = 0 := by decide
          have := hf 9
          split <;> split <;> simp only [List.count_append, List.count_nil, hd, c1, c2, c3] <;> omega

theorem digs_head {n : Nat} (h : n ≠ 0) : ∃ c t, digs n = c :: t ∧ isDig c = true ∧ c ≠ 48 := by
  induction n using Nat.strongRecOn with
  | ind n ih =>
    rw [digs_pos h]
    by_cases h10 : n / 10 = 0
    · rw [h10, digs_zero]
      refine ⟨dg n, [], rfl, isDig_dg n, ?_⟩
      intro e
      have := congrArg UInt8.toNat e
      rw [dg_toNat] at this
      simp at this
      omega
    · obtain ⟨c, t, e, h1, h2⟩ := ih (n / 10) (by omega) h10
      exact ⟨c, t ++ [dg n], by rw [e]; rfl, h1, h2⟩

theorem dec_head {n : Nat} (h : 1 ≤ n) (rest : List UInt8) : ∃ c t, dec n ++ rest = c :: t ∧ isDig c = true ∧ c ≠ 48 := by
  obtain ⟨c, t, e, h1, h2⟩ := digs_head (n := n) (by omega)
  refine ⟨c, t ++ rest, ?_, h1, h2⟩
  unfold dec
  rw [if_neg (by omega), e]; rfl

theorem strU_first {n : Nat} (h : 1 ≤ n) : ∃ c t, strU n = c :: t ∧ isDig c = true ∧ c ≠ 48 := by
  unfold strU
  rw [if_neg (by omega)]
  split
  · exact dec_head h _
  · split
    · exact dec_head (by omega) _
    · split
      · exact dec_head (by omega) _
      · dsimp only
        split
        · split
          · exact dec_head (by omega) _
          · rw [List.nil_append, List.append_assoc]; exact dec_head (by omega) _
        · rw [List.append_assoc]; exact dec_head (by omega) _

theorem strU_last (n : Nat) : (strU n).getLast? = some 115 := by
  unfold strU
  split
  · rfl
  · split
    · simp
    · split
      · simp
      · split
        · simp
        · dsimp only; simp

end Go.Proofs.Ytkagbpnmdflhjaa
