/- The law FnParseSigned returns true for every input, where the listed package variables hold what the program lays into them. A sign in front of the text of a duration of at least 0 is read as one, a second one is not. -/
import Derived.Test.YteejjhdfebhagaaDoorRows
import Derived.WalkKit
import Derived.ProofKit
import Derived.OpenShut
import Derived.Test.YteejjhdfebhagaaDoorLawsW
import Derived.Test.YteejjhdfebhagaaDoorAddsStr
namespace Go.Proofs.YteejjhdfebhagaaDoor.fnParseSigned
open Go.ChangeShapes Go.WideShapes Go.ChangeAt Go.RowKit
set_option linter.unusedVariables false

theorem reads_plus {d : Int} {l : List UInt8} (h0 : 0 ≤ d) (h1 : d ≤ 9223372036854775807) (hl : str d = l) : Reads (43 :: l) d true := by
  have hT : two63 = 9223372036854775808 := rfl
  subst hl
  rw [str_of h0]
  obtain ⟨l1, l2⟩ := strU_long d.toNat
  refine Or.inl ⟨rfl, ?_⟩
  rw [(adds_strU vf_exact d.toNat (by omega)).parsePlus (by unfold two64; omega) l1 l2, if_pos (by omega), Int.toNat_of_nonneg h0]
theorem reads_minus {d : Int} {l : List UInt8} (h0 : 0 ≤ d) (h1 : d ≤ 9223372036854775807) (hl : str d = l) : Reads (45 :: l) (-d) true := by
  have hT : two63 = 9223372036854775808 := rfl
  subst hl
  rw [str_of h0]
  obtain ⟨l1, l2⟩ := strU_long d.toNat
  refine Or.inl ⟨rfl, ?_⟩
  rw [(adds_strU vf_exact d.toNat (by omega)).parseMinus (by unfold two64; omega) l1 l2, if_pos (by omega), Int.toNat_of_nonneg h0]
theorem reads_two (a b : UInt8) (l : List UInt8) (ha : a = 43 ∨ a = 45) (hb : inUnit b = true) (hl : l ≠ []) : Reads (a :: b :: l) 0 false := by
  have hn : b :: l ≠ [48] := by
    intro e
    have := congrArg List.length e
    have h2 := List.length_pos_iff.2 hl
    simp at this
    exact hl this
  refine Or.inr ⟨rfl, rfl, ?_⟩
  rcases ha with rfl | rfl
  · exact parse_plus hn (List.cons_ne_nil _ _) (pl_head hb)
  · exact parse_minus hn (List.cons_ne_nil _ _) (pl_head hb)

set_option maxHeartbeats 4000000 in
theorem walk (a0 : Int) (w0 : (Lit.int .i64 a0).wf = true) (w : World) (hL : laidMetH Tryd.prog Rows.fnParseSignedRow.laid w) :
    Calls Tryd.prog 16 #[.int .i64 a0] w fun e w' => e = .returned (.bool true) ∧ Bel w w' := by
  obtain ⟨b01, b02⟩ := bounds_of w0
  have HL := Lib.hid (of_laid hL)
  clear w0 hL
  by_cases hneg : a0 < 0
  · go_enter Tryd.func16, Tryd.ntmps16
    go_wp2
    go_ret
    exact ⟨rfl, Bel.refl _⟩
  · have h0 : 0 ≤ a0 := by omega
    obtain ⟨l, hl⟩ : ∃ l, str a0 = l := ⟨_, rfl⟩
    obtain ⟨hn1, hn⟩ := str_len b01 b02
    rw [hl] at hn hn1
    have hne : l ≠ [] := by intro e; rw [e] at hn1; simp at hn1
    have HNE := Lib.hid hne
    have HZ : Hid ((!l.isEmpty) = true) := Lib.hid (by cases l with | nil => exact absurd rfl hne | cons a t => rfl)
    have HT := Lib.hid hl
    clear hl hne hneg
    go_enter Tryd.func16, Tryd.ntmps16
    go_wp2_with fail
    refine (strB_is _ b01 b02 HT.out).mono ?_
    rintro e w1 ⟨rfl, g1⟩
    have G1 := Lib.hid g1
    clear g1
    go_wp2_with fail
    refine (parses_yes _ _ _ _ (by rw [sz_app]; show 1 + l.length ≤ _; omega) (HL.out.bel G1.out) (by rw [dl_app]; exact reads_plus h0 b02 HT.out)).mono ?_
    rintro e w2 ⟨rfl, g2⟩
    have G2 := Lib.hid (G1.out.trans g2)
    clear g2
    go_wp2_with fail
    refine (parses_yes _ _ _ _ (by rw [sz_app]; show 1 + l.length ≤ _; omega) (HL.out.bel G2.out) (by rw [dl_app]; exact reads_minus h0 b02 HT.out)).mono ?_
    rintro e w3 ⟨rfl, g3⟩
    have G3 := Lib.hid (G2.out.trans g3)
    clear g3
    go_wp2_with fail
    refine (parses_yes _ _ _ _ (by rw [sz_app]; show 2 + l.length ≤ _; omega) (HL.out.bel G3.out) (by rw [dl_app]; exact reads_two 45 45 l (Or.inr rfl) (by decide) HNE.out)).mono ?_
    rintro e w4 ⟨rfl, g4⟩
    have G4 := Lib.hid (G3.out.trans g4)
    clear g4
    go_wp2_with fail
    refine (parses_yes _ _ _ _ (by rw [sz_app]; show 2 + l.length ≤ _; omega) (HL.out.bel G4.out) (by rw [dl_app]; exact reads_two 43 45 l (Or.inl rfl) (by decide) HNE.out)).mono ?_
    rintro e w5 ⟨rfl, g5⟩
    have G5 := Lib.hid (G4.out.trans g5)
    clear g5
    go_wp2_with fail
    refine (parses_yes _ _ _ _ (by rw [sz_app]; show 2 + l.length ≤ _; omega) (HL.out.bel G5.out) (by rw [dl_app]; exact reads_two 45 43 l (Or.inr rfl) (by decide) HNE.out)).mono ?_
    rintro e w6 ⟨rfl, g6⟩
    have G6 := Lib.hid (G5.out.trans g6)
    clear g6
    go_wp2
    go_ret
    exact ⟨ret_bool (show (!l.isEmpty) = true from HZ.out), G6.out⟩

end Go.Proofs.YteejjhdfebhagaaDoor.fnParseSigned
