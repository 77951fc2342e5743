/- The law FnParseString returns true for every input, where the listed package variables hold what the program lays into them. ParseDuration reads what String writes. -/
import Derived.Test.YteejjhdfebhagaaDoorRows
import Derived.WalkKit
import Derived.ProofKit
import Derived.OpenShut
import Derived.Test.YteejjhdfebhagaaDoorParseIs
namespace Go.Proofs.YteejjhdfebhagaaDoor.fnParseString
open Go.ChangeShapes Go.WideShapes Go.ChangeAt Go.RowKit
set_option linter.unusedVariables false

set_option maxHeartbeats 4000000 in
theorem walk (a0 : Int) (w0 : (Lit.int .i64 a0).wf = true) (w : World) (hL : laidMetH Tryd.prog Rows.fnParseStringRow.laid w) :
    Calls Tryd.prog 3 #[.int .i64 a0] w fun e w' => e = .returned (.bool true) ∧ Bel w w' := by
  obtain ⟨b01, b02⟩ := bounds_of w0
  have HL := Lib.hid (of_laid hL)
  clear w0 hL
  obtain ⟨l, hl⟩ : ∃ l, str a0 = l := ⟨_, rfl⟩
  have hn := (str_len b01 b02).2
  rw [hl] at hn
  have HT := Lib.hid hl
  clear hl
  go_enter Tryd.func3, Tryd.ntmps3
  go_wp2_with fail
  refine (strB_is _ b01 b02 HT.out).mono ?_
  rintro e w1 ⟨rfl, g1⟩
  have G1 := Lib.hid g1
  clear g1
  go_wp2_with fail
  refine (parses_yes _ _ _ _ (by show l.length ≤ _; omega) (HL.out.bel G1.out) (Or.inl ⟨rfl, by show parse vf l = _; rw [← HT.out]; exact parse_str vf_exact b01 b02⟩)).mono ?_
  rintro e w2 ⟨rfl, g2⟩
  have G2 := Lib.hid g2
  clear g2
  go_wp2
  go_ret
  exact ⟨rfl, G1.out.trans G2.out⟩

end Go.Proofs.YteejjhdfebhagaaDoor.fnParseString
