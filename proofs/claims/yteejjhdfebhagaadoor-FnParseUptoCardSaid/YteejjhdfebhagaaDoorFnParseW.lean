/- The law FnParse returns true for every input of bulk at most 1048576, where the listed package variables hold what the program lays into them. ParseDuration reads each text as the reference does, where the reference is sure. -/
import Derived.Test.YteejjhdfebhagaaDoorRows
import Derived.WalkKit
import Derived.ProofKit
import Derived.OpenShut
import Derived.Test.YteejjhdfebhagaaDoorSureW
namespace Go.Proofs.YteejjhdfebhagaaDoor.fnParse
open Go.ChangeShapes Go.WideShapes Go.ChangeAt Go.RowKit
set_option linter.unusedVariables false

set_option maxHeartbeats 4000000 in
theorem walk (s0 : ByteArray) (z0 : s0.size ≤ 1048576) (w : World) (hL : laidMetH Tryd.prog Rows.fnParseRow.laid w) :
    Calls Tryd.prog 6 #[.string s0] w fun e w' => e = .returned (.bool true) ∧ Bel w w' := by
  have HL := Lib.hid (of_laid hL)
  clear hL
  have hP := sure_is s0 w (by omega)
  go_enter Tryd.func6, Tryd.ntmps6
  go_wp2_with fail
  refine hP.mono ?_
  clear hP
  rintro e w1 ⟨rfl, d, ok, sure, hr, rfl⟩
  cases sure
  · clear hr
    go_wp2
    go_ret
    exact ⟨rfl, Bel.refl _⟩
  · have HR := Lib.hid (hr rfl)
    clear hr
    go_wp2_with fail
    refine (parses_yes _ _ _ _ (by omega) HL.out HR.out).mono ?_
    rintro e v1 ⟨rfl, g1⟩
    have G1 := Lib.hid g1
    clear g1
    go_wp2
    go_ret
    exact ⟨rfl, G1.out⟩

end Go.Proofs.YteejjhdfebhagaaDoor.fnParse
