/- The law FnParsePoints returns true for every input, where the listed package variables hold what the program lays into them. A number may have its digits on one side of the point alone, but not on none. -/
import Derived.Test.YteejjhdfebhagaaDoorRows
import Derived.WalkKit
import Derived.ProofKit
import Derived.OpenShut
import Derived.Test.YteejjhdfebhagaaDoorLawsW
import Derived.Test.YteejjhdfebhagaaDoorUBounds
import Derived.Test.YteejjhdfebhagaaDoorAddsStr
namespace Go.Proofs.YteejjhdfebhagaaDoor.fnParsePoints
open Go.ChangeShapes Go.WideShapes Go.ChangeAt Go.RowKit
set_option linter.unusedVariables false

theorem whole {n k : Nat} (hk : k ≤ 7) (hn : n ≤ 1000000) {l u : List UInt8} (hl : dec n = l) (hu : uname k = u) : parse vf (l ++ [46] ++ u) = if n * uby k ≤ two63 - 1 then some ((n * uby k : Nat) : Int) else none := by
  subst hl
  subst hu
  have h1 : n * uby k ≤ 1000000 * 3600000000000 := Nat.mul_le_mul hn (uby_le k)
  have A := adds_point vf (A := dec n) (B := []) (x := 0) (digits_dec n) digits_nil (Or.inl (dec_ne n)) (uname_ne hk) (uname_units hk) (uname_by hk) (uby_pos k) (by decide) (Or.inl ⟨rfl, rfl⟩) (by rw [dval_dec]; unfold two63; omega)
  rw [dval_dec, Nat.add_zero, List.nil_append] at A
  have e : dec n ++ [46] ++ uname k = dec n ++ (46 :: uname k) := by simp
  rw [e]
  obtain ⟨l1, l2⟩ := long_of (dec_ne n) (List.cons_ne_nil 46 (uname k))
  exact A.parse (by unfold two64; omega) (unsign_app (digits_dec n) (dec_ne n) _) l1 l2
theorem half {k : Nat} (h1 : 1 ≤ k) (hk : k ≤ 7) {u : List UInt8} (hu : uname k = u) {B : Int} (hB : (uby k : Int) = B) : Reads ([46, 53] ++ u) (B / 2) true := by
  subst hu
  subst hB
  have hq : uby k = uby k / 10 * 10 ^ 1 := by
    rcases upto7 hk with h | h | h | h | h | h | h | h <;> subst h <;> first | omega | decide
  have hle := uby_le k
  have A := adds_point vf (A := []) (B := [53]) (x := 5 * (uby k / 10)) digits_nil (by intro c hc; simp at hc; subst hc; rfl) (Or.inr (by decide)) (uname_ne hk) (uname_units hk) (uname_by hk) (uby_pos k) (by decide) (Or.inr ⟨by decide, vf_exact 5 (uby k) 1 (uby k / 10) hq (uby_is hk) (by decide)⟩) (by rw [dval_nil, Nat.zero_mul]; unfold two63; omega)
  rw [dval_nil, Nat.zero_mul, Nat.zero_add, List.nil_append] at A
  refine Or.inl ⟨rfl, ?_⟩
  have e : [46, 53] ++ uname k = 46 :: ([53] ++ uname k) := rfl
  rw [e, A.parse (by unfold two64; omega) (unsign_dot _) (by intro e; have := congrArg List.length e; simp at this) (List.cons_ne_nil _ _), if_pos (by unfold two63; omega)]
  rw [Nat.pow_one] at hq
  congr 1
  omega
theorem dot_none {k : Nat} (hk : k ≤ 7) (d : Nat) : pl vf (46 :: uname k) d = none := by
  refine pl_none (List.cons_ne_nil _ _) (step_nodig (v := 0) (s1 := 46 :: uname k) (by decide) (lint_stop (point_noDig _) 0) ?_)
  have hnd : noDig (uname k) := by have := unit_noDig (rest := []) (uname_ne hk) (uname_units hk); rwa [List.append_nil] at this
  rw [part_point, lfrac_stop hnd]
  simp
theorem dot {k : Nat} (hk : k ≤ 7) {u : List UInt8} (hu : uname k = u) : Reads ([46] ++ u) 0 false ∧ Reads ([45, 46] ++ u) 0 false := by
  subst hu
  have hn : 46 :: uname k ≠ [48] := by intro e; simp at e
  exact ⟨Or.inr ⟨rfl, rfl, parse_plain (unsign_dot _) hn (List.cons_ne_nil _ _) (dot_none hk 0)⟩, Or.inr ⟨rfl, rfl, parse_minus hn (List.cons_ne_nil _ _) (dot_none hk 0)⟩⟩

set_option maxHeartbeats 4000000 in
theorem walk (a0 : Int) (a1 : Int) (w0 : (Lit.int .u64 a0).wf = true) (w1 : (Lit.int .i64 a1).wf = true) (w : World) (hL : laidMetH Tryd.prog Rows.fnParsePointsRow.laid w) :
    Calls Tryd.prog 9 #[.int .u64 a0, .int .i64 a1] w fun e w' => e = .returned (.bool true) ∧ Bel w w' := by
  obtain ⟨b01, b02⟩ := ubounds_of w0
  obtain ⟨b11, b12⟩ := bounds_of w1
  have HL := Lib.hid (of_laid hL)
  clear w0 w1 hL
  by_cases c0 : a1 < 1
  · go_enter Tryd.func9, Tryd.ntmps9
    go_wp2
    go_ret
    exact ⟨rfl, Bel.refl _⟩
  by_cases c1 : 7 < a1
  · go_enter Tryd.func9, Tryd.ntmps9
    go_wp2
    go_ret
    exact ⟨rfl, Bel.refl _⟩
  by_cases c2 : 1000000 < a0
  · go_enter Tryd.func9, Tryd.ntmps9
    go_wp2
    go_ret
    exact ⟨rfl, Bel.refl _⟩
  have h0 : 1 ≤ a1 := by omega
  have h1 : a1 ≤ 7 := by omega
  have h2 : a0 ≤ 1000000 := by omega
  clear c0 c1 c2
  obtain ⟨u, hu⟩ : ∃ u, uname a1.toNat = u := ⟨_, rfl⟩
  obtain ⟨B, hB⟩ : ∃ B : Int, (uby a1.toNat : Int) = B := ⟨_, rfl⟩
  obtain ⟨l, hl⟩ : ∃ l, dec a0.toNat = l := ⟨_, rfl⟩
  have hB1 : 1 ≤ B := by have := uby_pos a1.toNat; omega
  have hB2 : B ≤ 3600000000000 := by have := uby_le a1.toNat; omega
  have hl1 : l.length ≤ 20 := by rw [← hl]; exact dec_20 (by omega)
  have hu1 : u.length ≤ 3 := by rw [← hu]; exact (uname_len _).2
  obtain ⟨P, hP⟩ : ∃ P : Int, a0 * B = P := ⟨_, rfl⟩
  have hPn : ((a0.toNat * uby a1.toNat : Nat) : Int) = P := by rw [← hP, ← hB, Int.natCast_mul, Int.toNat_of_nonneg b01]
  have n1 : a0.toNat * uby a1.toNat ≤ 1000000 * 3600000000000 := Nat.mul_le_mul (by omega) (uby_le _)
  have hP0 : 0 ≤ P := by omega
  have hP1 : P ≤ 3600000000000000000 := by omega
  obtain ⟨D, hD⟩ : ∃ D, fitD P false = D := ⟨_, rfl⟩
  obtain ⟨O, hO⟩ : ∃ O, fitO P false = O := ⟨_, rfl⟩
  have q1 : Hid (Reads (l ++ [46] ++ u) D O) := Lib.hid (by rw [← hD, ← hO]; exact reads_pos hPn (whole (by omega) (by omega) hl hu))
  have q2 : Hid (Reads ([46, 53] ++ u) (B / 2) true) := Lib.hid (half (by omega) (by omega) hu hB)
  have q3 : Hid (Reads ([46] ++ u) 0 false) := Lib.hid (dot (k := a1.toNat) (by omega) hu).1
  have q4 : Hid (Reads ([45, 46] ++ u) 0 false) := Lib.hid (dot (k := a1.toNat) (by omega) hu).2
  have cU := fun w => unitOf_is w (by omega) h1 hu hB
  have cF := fun w => fits_is P false w (by omega) (by omega)
  rw [hD, hO] at cF
  have HLU := Lib.hid hl
  clear hu hB hl hPn n1 hD hO
  go_enter Tryd.func9, Tryd.ntmps9
  go_wp2_with fail
  refine (cU _).mono ?_
  rintro e v1 ⟨rfl, rfl⟩
  clear cU
  go_wp2_with fail
  refine (cF _).mono ?_
  rintro e v1 ⟨rfl, rfl⟩
  clear cF
  go_wp2_with fail
  refine (decB_is _ b01 (by omega) HLU.out).mono ?_
  rintro e v1 ⟨rfl, g1⟩
  have G1 := Lib.hid g1
  clear g1
  go_wp2_with fail
  refine (parses_yes _ _ _ _ (by rw [sz_app, sz_app]; show l.length + 1 + u.length ≤ _; omega) (HL.out.bel G1.out) (by rw [dl_app, dl_app]; exact q1.out)).mono ?_
  rintro e v2 ⟨rfl, g2⟩
  have G2 := Lib.hid (Bel.trans G1.out g2)
  clear g2
  go_wp2_with fail
  refine (parses_yes _ _ _ _ (by rw [sz_app]; show 2 + u.length ≤ _; omega) (HL.out.bel G2.out) (by rw [dl_app]; exact q2.out)).mono ?_
  rintro e v3 ⟨rfl, g3⟩
  have G3 := Lib.hid (Bel.trans G2.out g3)
  clear g3
  go_wp2_with fail
  refine (parses_yes _ _ _ _ (by rw [sz_app]; show 1 + u.length ≤ _; omega) (HL.out.bel G3.out) (by rw [dl_app]; exact q3.out)).mono ?_
  rintro e v4 ⟨rfl, g4⟩
  have G4 := Lib.hid (Bel.trans G3.out g4)
  clear g4
  go_wp2_with fail
  refine (parses_yes _ _ _ _ (by rw [sz_app]; show 2 + u.length ≤ _; omega) (HL.out.bel G4.out) (by rw [dl_app]; exact q4.out)).mono ?_
  rintro e v5 ⟨rfl, g5⟩
  have G5 := Lib.hid (Bel.trans G4.out g5)
  clear g5
  go_wp2
  go_ret
  exact ⟨rfl, G5.out⟩

end Go.Proofs.YteejjhdfebhagaaDoor.fnParsePoints
