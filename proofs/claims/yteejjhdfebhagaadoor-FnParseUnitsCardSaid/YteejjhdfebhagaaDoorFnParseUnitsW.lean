/- The law FnParseUnits returns true for every input, where the listed package variables hold what the program lays into them. A number and a unit are as many of it, with a sign or without, if that is a duration, and no duration otherwise. -/
import Derived.Test.YteejjhdfebhagaaDoorRows
import Derived.WalkKit
import Derived.ProofKit
import Derived.OpenShut
import Derived.Test.YteejjhdfebhagaaDoorLawsW
import Derived.Test.YteejjhdfebhagaaDoorUBounds
namespace Go.Proofs.YteejjhdfebhagaaDoor.fnParseUnits
open Go.ChangeShapes Go.WideShapes Go.ChangeAt Go.RowKit
set_option linter.unusedVariables false

theorem three {n k : Nat} (hk : k ≤ 7) {X : Nat} {l u : List UInt8} (hl : dec n = l) (hu : uname k = u) (hX : n * uby k = X) :
    parse vf (l ++ u) = (if X ≤ two63 - 1 then some (X : Int) else none) ∧ parse vf (43 :: (l ++ u)) = (if X ≤ two63 - 1 then some (X : Int) else none) ∧ parse vf (45 :: (l ++ u)) = (if X ≤ two63 then some (-(X : Int)) else none) := by
  subst hl
  subst hu
  subst hX
  have h1 := num_plain vf (digits_dec n) (dec_ne n) (uname_ne hk) (uname_units hk) (uname_by hk) (uby_pos k)
  have h2 := num_plus vf (digits_dec n) (dec_ne n) (uname_ne hk) (uname_units hk) (uname_by hk) (uby_pos k)
  have h3 := num_minus vf (digits_dec n) (dec_ne n) (uname_ne hk) (uname_units hk) (uname_by hk) (uby_pos k)
  rw [dval_dec] at h1 h2 h3
  exact ⟨h1, h2, h3⟩

set_option maxHeartbeats 4000000 in
theorem walk (a0 : Int) (a1 : Int) (w0 : (Lit.int .u64 a0).wf = true) (w1 : (Lit.int .i64 a1).wf = true) (w : World) (hL : laidMetH Tryd.prog Rows.fnParseUnitsRow.laid w) :
    Calls Tryd.prog 11 #[.int .u64 a0, .int .i64 a1] w fun e w' => e = .returned (.bool true) ∧ Bel w w' := by
  obtain ⟨b01, b02⟩ := ubounds_of w0
  obtain ⟨b11, b12⟩ := bounds_of w1
  have HL := Lib.hid (of_laid hL)
  clear w0 w1 hL
  by_cases hk0 : a1 < 0
  · go_enter Tryd.func11, Tryd.ntmps11
    go_wp2
    go_ret
    exact ⟨rfl, Bel.refl _⟩
  by_cases hk7 : 7 < a1
  · go_enter Tryd.func11, Tryd.ntmps11
    go_wp2
    go_ret
    exact ⟨rfl, Bel.refl _⟩
  have h0 : 0 ≤ a1 := by omega
  have h7 : a1 ≤ 7 := by omega
  have e1 : decide (a1 < 0) = false := by simpa using h0
  have e2 : decide (7 < a1) = false := by simpa using h7
  clear hk0 hk7
  obtain ⟨u, hu⟩ : ∃ u, uname a1.toNat = u := ⟨_, rfl⟩
  obtain ⟨B, hB⟩ : ∃ B : Int, (uby a1.toNat : Int) = B := ⟨_, rfl⟩
  obtain ⟨l, hl⟩ : ∃ l, dec a0.toNat = l := ⟨_, rfl⟩
  have hB1 : 1 ≤ B := by have := uby_pos a1.toNat; omega
  have hB2 : B ≤ 3600000000000 := by have := uby_le a1.toNat; omega
  have hl1 : l.length ≤ 20 := by rw [← hl]; exact dec_20 (by omega)
  have hu1 : u.length ≤ 3 := by rw [← hu]; exact (uname_len _).2
  obtain ⟨X, hX⟩ : ∃ X, a0.toNat * uby a1.toNat = X := ⟨_, rfl⟩
  have hXB : (X : Int) = a0 * B := by rw [← hX, ← hB, Int.natCast_mul, Int.toNat_of_nonneg b01]
  obtain ⟨r1, r2, r3⟩ := three (by omega) hl hu hX
  have cU := fun w => unitOf_is w h0 h7 hu hB
  obtain ⟨M, hM⟩ : ∃ M : Int, IntKind.u64.wrap (a0 * B) = M := ⟨_, rfl⟩
  have hMe : M = (a0 * B) % 18446744073709551616 := by rw [← hM]; unfold IntKind.wrap; simp [IntKind.bits, IntKind.signed]
  have hM0 : 0 ≤ M := by rw [hMe]; exact Int.emod_nonneg _ (by decide)
  have hM1 : M < 18446744073709551616 := by rw [hMe]; exact Int.emod_lt_of_pos _ (by decide)
  have c1 := fun w => fits_is M false w hM0 hM1
  have c2 := fun w => fits_is M true w hM0 hM1
  have HLU := Lib.hid hl
  have hBn : (B == 0) = false := by rw [beq_eq_false_iff_ne]; omega
  have hdv : 18446744073709551615 / B < a0 ↔ 18446744073709551616 ≤ (X : Int) := by
    rw [hXB]
    have hp : 0 < B := by omega
    rw [Int.ediv_lt_iff_lt_mul hp]
    omega
  by_cases hg : 18446744073709551615 / B < a0
  · have hgd : decide (18446744073709551615 / B < a0) = true := by simpa using hg
    have hbig := hdv.1 hg
    have q1 : Hid (Reads (l ++ u) 0 false) := Lib.hid (Or.inr ⟨rfl, rfl, by rw [r1, if_neg (by unfold two63; omega)]⟩)
    have q2 : Hid (Reads (43 :: (l ++ u)) 0 false) := Lib.hid (Or.inr ⟨rfl, rfl, by rw [r2, if_neg (by unfold two63; omega)]⟩)
    have q3 : Hid (Reads (45 :: (l ++ u)) 0 false) := Lib.hid (Or.inr ⟨rfl, rfl, by rw [r3, if_neg (by unfold two63; omega)]⟩)
    clear hu hB hl hX hXB r1 r2 r3 hMe hdv hg hbig
    go_enter Tryd.func11, Tryd.ntmps11
    go_wp2_with fail
    refine (cU _).mono ?_
    rintro e v1 ⟨rfl, rfl⟩
    clear cU
    go_wp2_with fail
    refine (c1 _).mono ?_
    rintro e v1 ⟨rfl, rfl⟩
    go_wp2_with fail
    refine (c2 _).mono ?_
    rintro e v1 ⟨rfl, rfl⟩
    clear c1 c2
    go_wp2_with fail
    refine (decB_is _ b01 (by omega) HLU.out).mono ?_
    rintro e v1 ⟨rfl, g1⟩
    have G1 := Lib.hid g1
    clear g1
    go_wp2_with fail
    refine (parses_yes _ _ _ _ (by rw [sz_app]; show l.length + u.length ≤ _; omega) (HL.out.bel G1.out) (by rw [dl_app]; exact q1.out)).mono ?_
    rintro e v2 ⟨rfl, g2⟩
    have G2 := Lib.hid (G1.out.trans g2)
    clear g2
    go_wp2_with fail
    refine (parses_yes _ _ _ _ (by rw [sz_app, sz_app]; show 1 + (l.length + u.length) ≤ _; omega) (HL.out.bel G2.out) (by rw [dl_app, dl_app]; exact q2.out)).mono ?_
    rintro e v3 ⟨rfl, g3⟩
    have G3 := Lib.hid (G2.out.trans g3)
    clear g3
    go_wp2_with fail
    refine (parses_yes _ _ _ _ (by rw [sz_app, sz_app]; show 1 + (l.length + u.length) ≤ _; omega) (HL.out.bel G3.out) (by rw [dl_app, dl_app]; exact q3.out)).mono ?_
    rintro e v4 ⟨rfl, g4⟩
    have G4 := Lib.hid (G3.out.trans g4)
    clear g4
    go_wp2
    go_ret
    exact ⟨rfl, G4.out⟩
  · have hgd : decide (18446744073709551615 / B < a0) = false := by simpa using hg
    have hsm : (X : Int) < 18446744073709551616 := by
      rcases Int.lt_or_le (X : Int) 18446744073709551616 with h | h
      · exact h
      · exact absurd (hdv.2 h) hg
    have hXM : (X : Int) = M := by rw [hMe, ← hXB]; omega
    obtain ⟨D1, hD1⟩ : ∃ D, fitD M false = D := ⟨_, rfl⟩
    obtain ⟨O1, hO1⟩ : ∃ O, fitO M false = O := ⟨_, rfl⟩
    obtain ⟨D2, hD2⟩ : ∃ D, fitD M true = D := ⟨_, rfl⟩
    obtain ⟨O2, hO2⟩ : ∃ O, fitO M true = O := ⟨_, rfl⟩
    have q1 : Hid (Reads (l ++ u) D1 O1) := Lib.hid (by rw [← hD1, ← hO1]; exact reads_pos hXM r1)
    have q2 : Hid (Reads (43 :: (l ++ u)) D1 O1) := Lib.hid (by rw [← hD1, ← hO1]; exact reads_pos hXM r2)
    have q3 : Hid (Reads (45 :: (l ++ u)) D2 O2) := Lib.hid (by rw [← hD2, ← hO2]; exact reads_neg hXM r3)
    rw [hD1, hO1] at c1
    rw [hD2, hO2] at c2
    clear hu hB hl hX hXB r1 r2 r3 hMe hdv hg hXM hsm hD1 hO1 hD2 hO2
    go_enter Tryd.func11, Tryd.ntmps11
    go_wp2_with fail
    refine (cU _).mono ?_
    rintro e v1 ⟨rfl, rfl⟩
    clear cU
    go_wp2_with fail
    refine (c1 _).mono ?_
    rintro e v1 ⟨rfl, rfl⟩
    go_wp2_with fail
    refine (c2 _).mono ?_
    rintro e v1 ⟨rfl, rfl⟩
    clear c1 c2
    go_wp2_with fail
    refine (decB_is _ b01 (by omega) HLU.out).mono ?_
    rintro e v1 ⟨rfl, g1⟩
    have G1 := Lib.hid g1
    clear g1
    go_wp2_with fail
    refine (parses_yes _ _ _ _ (by rw [sz_app]; show l.length + u.length ≤ _; omega) (HL.out.bel G1.out) (by rw [dl_app]; exact q1.out)).mono ?_
    rintro e v2 ⟨rfl, g2⟩
    have G2 := Lib.hid (G1.out.trans g2)
    clear g2
    go_wp2_with fail
    refine (parses_yes _ _ _ _ (by rw [sz_app, sz_app]; show 1 + (l.length + u.length) ≤ _; omega) (HL.out.bel G2.out) (by rw [dl_app, dl_app]; exact q2.out)).mono ?_
    rintro e v3 ⟨rfl, g3⟩
    have G3 := Lib.hid (G2.out.trans g3)
    clear g3
    go_wp2_with fail
    refine (parses_yes _ _ _ _ (by rw [sz_app, sz_app]; show 1 + (l.length + u.length) ≤ _; omega) (HL.out.bel G3.out) (by rw [dl_app, dl_app]; exact q3.out)).mono ?_
    rintro e v4 ⟨rfl, g4⟩
    have G4 := Lib.hid (G3.out.trans g4)
    clear g4
    go_wp2
    go_ret
    exact ⟨rfl, G4.out⟩

end Go.Proofs.YteejjhdfebhagaaDoor.fnParseUnits
