/- The law FnParseNeedsUnit returns true for every input, where the listed package variables hold what the program lays into them. A number without a unit is no duration, but 0; nor is a text with a number without one behind others. -/
import Derived.Test.YteejjhdfebhagaaDoorRows
import Derived.WalkKit
import Derived.ProofKit
import Derived.OpenShut
import Derived.Test.YteejjhdfebhagaaDoorLawsW
import Derived.Test.YteejjhdfebhagaaDoorUBounds
import Derived.Test.YteejjhdfebhagaaDoorAddsStr
namespace Go.Proofs.YteejjhdfebhagaaDoor.fnParseNeedsUnit
open Go.ChangeShapes Go.WideShapes Go.ChangeAt Go.RowKit
set_option linter.unusedVariables false

theorem bare_none {n : Nat} (d : Nat) (t : List UInt8) (ht : t = [] ∨ t = [46, 53]) : pl vf (dec n ++ t) d = none := by
  refine pl_none (by intro e; have := congrArg List.length e; rw [List.length_append, List.length_nil] at this; have := dec_pos_len n; omega) ?_
  have hd := digits_dec n
  obtain ⟨c, A, hcA⟩ : ∃ c A, dec n = c :: A := by
    cases h : dec n with
    | nil => exact absurd h (dec_ne n)
    | cons c A => exact ⟨c, A, rfl⟩
  have hc : inUnit c = false := by rw [hcA] at hd; exact dig_noUnit (digits_cons hd).1
  have hnd : noDig t := by
    rcases ht with rfl | rfl
    · intro c t e; cases e
    · exact point_noDig _
  by_cases hv : n ≤ two63
  · have hl : lint (dec n ++ t) 0 = some (n, t) := by rw [lint_digits _ _ 0 hd (by rw [dval_dec]; exact hv), lint_stop hnd, dval_dec]
    obtain ⟨f, k, po, hp⟩ : ∃ f k po, part t = (f, k, [], po) := by
      rcases ht with rfl | rfl
      · exact ⟨_, _, _, rfl⟩
      · exact ⟨5, 1, true, by decide⟩
    rw [hcA, List.cons_append] at hl ⊢
    rw [step_go hc hl hp (by
      have : (t.length == (c :: (A ++ t)).length) = false := by rw [beq_eq_false_iff_ne]; simp; omega
      rw [this]; rfl)]
    rfl
  · rw [hcA, List.cons_append]
    refine step_nolint hc ?_
    rw [← List.cons_append, ← hcA]
    exact lint_over _ _ 0 hd (Nat.zero_le _) (by rw [dval_dec]; omega)
theorem dec_long {n : Nat} (h : n ≠ 0) : dec n ≠ [48] := by
  intro e
  have := dval_dec n
  rw [e] at this
  exact h this.symm
theorem bare {n : Nat} {l : List UInt8} (hl : dec n = l) (h : n ≠ 0) : Reads l 0 false ∧ Reads ([45] ++ l) 0 false ∧ Reads ([43] ++ l) 0 false := by
  subst hl
  have h1 := bare_none (n := n) 0 [] (Or.inl rfl)
  rw [List.append_nil] at h1
  have hs := unsign_app (digits_dec n) (dec_ne n) []
  rw [List.append_nil] at hs
  exact ⟨Or.inr ⟨rfl, rfl, parse_plain hs (dec_long h) (dec_ne n) h1⟩, Or.inr ⟨rfl, rfl, parse_minus (dec_long h) (dec_ne n) h1⟩, Or.inr ⟨rfl, rfl, parse_plus (dec_long h) (dec_ne n) h1⟩⟩
theorem more {n : Nat} {l : List UInt8} (hl : dec n = l) : Reads ([49, 115] ++ l) 0 false ∧ Reads (l ++ [46, 53]) 0 false := by
  subst hl
  constructor
  · refine Or.inr ⟨rfl, rfl, ?_⟩
    have A := adds_dec vf 1 1000000000 [115] (by decide) (units_of (by decide)) (by decide) (by decide)
    have h2 := A 0 (dec n) (by have := noUnit_dec n []; rwa [List.append_nil] at this) (Nat.zero_le _) (by decide)
    have h3 := bare_none (n := n) (0 + 1 * 1000000000) [] (Or.inl rfl)
    rw [List.append_nil] at h3
    rw [h3, if_pos (by decide), show dec 1 = [49] by decide +kernel] at h2
    exact parse_plain (t := [49, 115] ++ dec n) rfl (by intro e; have := congrArg List.length e; simp at this) (List.cons_ne_nil _ _) h2
  · obtain ⟨l1, l2⟩ := long_of (dec_ne n) (List.cons_ne_nil 46 [53])
    exact Or.inr ⟨rfl, rfl, parse_plain (unsign_app (digits_dec n) (dec_ne n) _) l1 l2 (bare_none 0 [46, 53] (Or.inr rfl))⟩

set_option maxHeartbeats 4000000 in
theorem walk (a0 : Int) (a1 : Int) (w0 : (Lit.int .u64 a0).wf = true) (w1 : (Lit.int .i64 a1).wf = true) (w : World) (hL : laidMetH Tryd.prog Rows.fnParseNeedsUnitRow.laid w) :
    Calls Tryd.prog 15 #[.int .u64 a0, .int .i64 a1] w fun e w' => e = .returned (.bool true) ∧ Bel w w' := by
  obtain ⟨b01, b02⟩ := ubounds_of w0
  obtain ⟨b11, b12⟩ := bounds_of w1
  have HL := Lib.hid (of_laid hL)
  clear w0 w1 hL
  obtain ⟨l, hl⟩ : ∃ l, dec a0.toNat = l := ⟨_, rfl⟩
  obtain ⟨m, hm⟩ : ∃ m, str a1 = m := ⟨_, rfl⟩
  have hl1 : l.length ≤ 20 := by rw [← hl]; exact dec_20 (by omega)
  have hm1 : m.length ≤ 25 := by rw [← hm]; exact (str_len b11 b12).2
  obtain ⟨r4, r5⟩ := more hl
  have q4 := Lib.hid r4
  have q5 := Lib.hid r5
  have q6 : Hid (Reads m a1 true) := Lib.hid (by subst hm; exact Or.inl ⟨rfl, parse_str vf_exact b11 b12⟩)
  have HLU := Lib.hid hl
  have HM := Lib.hid hm
  obtain ⟨O, hO⟩ : ∃ O, (a0 == 0) = O := ⟨_, rfl⟩
  have hr : Reads l 0 O ∧ Reads ([45] ++ l) 0 O ∧ Reads ([43] ++ l) 0 O := by
    by_cases h : a0 = 0
    · subst h
      have e : l = [48] := by rw [← hl]; decide +kernel
      subst e
      have e2 : O = true := by rw [← hO]; rfl
      subst e2
      exact ⟨Or.inl ⟨rfl, rfl⟩, Or.inl ⟨rfl, rfl⟩, Or.inl ⟨rfl, rfl⟩⟩
    · have e2 : O = false := by rw [← hO, beq_eq_false_iff_ne]; exact h
      subst e2
      exact bare hl (by omega)
  obtain ⟨r1, r2, r3⟩ := hr
  have q1 := Lib.hid r1
  have q2 := Lib.hid r2
  have q3 := Lib.hid r3
  clear r1 r2 r3 r4 r5 hl hm
  go_enter Tryd.func15, Tryd.ntmps15
  go_wp2_with fail
  refine (decB_is _ b01 (by omega) HLU.out).mono ?_
  rintro e v1 ⟨rfl, g1⟩
  have G1 := Lib.hid g1
  clear g1
  go_wp2_with fail
  refine (parses_yes _ _ _ _ (by skip; show l.length ≤ _; omega) (HL.out.bel G1.out) (by skip; exact q1.out)).mono ?_
  rintro e v2 ⟨rfl, g2⟩
  have G2 := Lib.hid (Bel.trans G1.out g2)
  clear g2
  go_wp2_with fail
  refine (parses_yes _ _ _ _ (by rw [sz_app]; show 1 + l.length ≤ _; omega) (HL.out.bel G2.out) (by rw [dl_app]; exact q2.out)).mono ?_
  rintro e v3 ⟨rfl, g3⟩
  have G3 := Lib.hid (Bel.trans G2.out g3)
  clear g3
  go_wp2_with fail
  refine (parses_yes _ _ _ _ (by rw [sz_app]; show 1 + l.length ≤ _; omega) (HL.out.bel G3.out) (by rw [dl_app]; exact q3.out)).mono ?_
  rintro e v4 ⟨rfl, g4⟩
  have G4 := Lib.hid (Bel.trans G3.out g4)
  clear g4
  go_wp2_with fail
  refine (parses_yes _ _ _ _ (by rw [sz_app]; show 2 + l.length ≤ _; omega) (HL.out.bel G4.out) (by rw [dl_app]; exact q4.out)).mono ?_
  rintro e v5 ⟨rfl, g5⟩
  have G5 := Lib.hid (Bel.trans G4.out g5)
  clear g5
  go_wp2_with fail
  refine (parses_yes _ _ _ _ (by rw [sz_app]; show l.length + 2 ≤ _; omega) (HL.out.bel G5.out) (by rw [dl_app]; exact q5.out)).mono ?_
  rintro e v6 ⟨rfl, g6⟩
  have G6 := Lib.hid (Bel.trans G5.out g6)
  clear g6
  go_wp2_with fail
  refine (strB_is _ b11 b12 HM.out).mono ?_
  rintro e v7 ⟨rfl, g7⟩
  have G7 := Lib.hid (G6.out.trans g7)
  clear g7
  go_wp2_with fail
  refine (parses_yes _ _ _ _ (by skip; show m.length ≤ _; omega) (HL.out.bel G7.out) (by skip; exact q6.out)).mono ?_
  rintro e v8 ⟨rfl, g8⟩
  have G8 := Lib.hid (Bel.trans G7.out g8)
  clear g8
  go_wp2
  go_ret
  exact ⟨rfl, G8.out⟩

end Go.Proofs.YteejjhdfebhagaaDoor.fnParseNeedsUnit
