/- The law FnParseJoined returns true for every input, where the listed package variables hold what the program lays into them. The texts of two durations of at least 0, one behind the other, are the sum of both. -/
import Derived.Test.YteejjhdfebhagaaDoorRows
import Derived.WalkKit
import Derived.ProofKit
import Derived.OpenShut
import Derived.Test.YteejjhdfebhagaaDoorLawsW
import Derived.Test.YteejjhdfebhagaaDoorAddsStr
namespace Go.Proofs.YteejjhdfebhagaaDoor.fnParseJoined
open Go.ChangeShapes Go.WideShapes Go.ChangeAt Go.RowKit
set_option linter.unusedVariables false

theorem reads_both {a b : Int} {l m : List UInt8} (h0 : 0 ≤ a) (h1 : a ≤ 9223372036854775807) (h2 : 0 ≤ b) (h3 : b ≤ 9223372036854775807) (hl : str a = l) (hm : str b = m) : Reads (l ++ m) (fitD (a + b) false) (fitO (a + b) false) := by
  have hT : two63 = 9223372036854775808 := rfl
  subst hl
  subst hm
  rw [str_of h0, str_of h2]
  have A := adds_strU vf_exact a.toNat (by omega)
  have B := adds_strU vf_exact b.toNat (by omega)
  have C := A.app B (strU_noU _)
  obtain ⟨l1, l2⟩ := long_of (strU_long a.toNat).2 (strU_long b.toNat).2
  exact reads_pos (X := a.toNat + b.toNat) (by omega) (C.parse (by unfold two64; omega) (strU_unsign _ _) l1 l2)

set_option maxHeartbeats 4000000 in
theorem walk (a0 : Int) (a1 : Int) (w0 : (Lit.int .i64 a0).wf = true) (w1 : (Lit.int .i64 a1).wf = true) (w : World) (hL : laidMetH Tryd.prog Rows.fnParseJoinedRow.laid w) :
    Calls Tryd.prog 14 #[.int .i64 a0, .int .i64 a1] w fun e w' => e = .returned (.bool true) ∧ Bel w w' := by
  obtain ⟨b01, b02⟩ := bounds_of w0
  obtain ⟨b11, b12⟩ := bounds_of w1
  have HL := Lib.hid (of_laid hL)
  clear w0 w1 hL
  by_cases hneg : a0 < 0
  · go_enter Tryd.func14, Tryd.ntmps14
    go_wp2
    go_ret
    exact ⟨rfl, Bel.refl _⟩
  by_cases hneg1 : a1 < 0
  · go_enter Tryd.func14, Tryd.ntmps14
    go_wp2
    go_ret
    exact ⟨rfl, Bel.refl _⟩
  have h0 : 0 ≤ a0 := by omega
  have h1 : 0 ≤ a1 := by omega
  have e1 : decide (a0 < 0) = false := by simpa using h0
  have e2 : decide (a1 < 0) = false := by simpa using h1
  obtain ⟨l, hl⟩ : ∃ l, str a0 = l := ⟨_, rfl⟩
  obtain ⟨m, hm⟩ : ∃ m, str a1 = m := ⟨_, rfl⟩
  obtain ⟨hn1, hn2⟩ := str_len b01 b02
  obtain ⟨hn3, hn4⟩ := str_len b11 b12
  rw [hl] at hn1 hn2
  rw [hm] at hn3 hn4
  have hz : l.isEmpty = false := by cases l with | nil => simp at hn1 | cons a t => rfl
  have hy : m.isEmpty = false := by cases m with | nil => simp at hn3 | cons a t => rfl
  obtain ⟨D, hD⟩ : ∃ D, fitD (a0 + a1) false = D := ⟨_, rfl⟩
  obtain ⟨O, hO⟩ : ∃ O, fitO (a0 + a1) false = O := ⟨_, rfl⟩
  have HLM : Hid (Reads (l ++ m) D O) := Lib.hid (by rw [← hD, ← hO]; exact reads_both h0 b02 h1 b12 hl hm)
  have HML : Hid (Reads (m ++ l) D O) := Lib.hid (by rw [← hD, ← hO, Int.add_comm]; exact reads_both h1 b12 h0 b02 hm hl)
  have cF := fun w => fits_is (a0 + a1) false w (by omega) (by omega)
  rw [hD, hO] at cF
  have HT := Lib.hid hl
  have HM := Lib.hid hm
  clear hl hm hD hO hneg hneg1
  go_enter Tryd.func14, Tryd.ntmps14
  go_wp2_with fail
  refine (cF _).mono ?_
  rintro e v1 ⟨rfl, rfl⟩
  clear cF
  go_wp2_with fail
  refine (strB_is _ b01 b02 HT.out).mono ?_
  rintro e v1 ⟨rfl, g1⟩
  have G1 := Lib.hid g1
  clear g1
  go_wp2_with fail
  refine (strB_is _ b11 b12 HM.out).mono ?_
  rintro e v2 ⟨rfl, g2⟩
  have G2 := Lib.hid (G1.out.trans g2)
  clear g2
  go_wp2_with fail
  refine (parses_yes _ _ _ _ (by rw [sz_app]; show l.length + m.length ≤ _; omega) (HL.out.bel G2.out) (by rw [dl_app]; exact HLM.out)).mono ?_
  rintro e v3 ⟨rfl, g3⟩
  have G3 := Lib.hid (G2.out.trans g3)
  clear g3
  go_wp2_with fail
  refine (parses_yes _ _ _ _ (by rw [sz_app]; show m.length + l.length ≤ _; omega) (HL.out.bel G3.out) (by rw [dl_app]; exact HML.out)).mono ?_
  rintro e v4 ⟨rfl, g4⟩
  have G4 := Lib.hid (G3.out.trans g4)
  clear g4
  go_wp2
  go_ret
  exact ⟨rfl, G4.out⟩

end Go.Proofs.YteejjhdfebhagaaDoor.fnParseJoined
