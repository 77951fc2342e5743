/- The contract of impl.String at a named text; the text of 0 and of the other duration. -/
import Derived.Test.YteejjhdfebhagaaDoorStringW
import Derived.Test.YteejjhdfebhagaaDoorNumPlain
namespace Go.Proofs.YteejjhdfebhagaaDoor
open Go.ChangeShapes Go.WideShapes Go.ChangeAt Go.RowKit

theorem string_is {d : Int} {l : List UInt8} (w : World) (h1 : -9223372036854775808 ≤ d) (h2 : d ≤ 9223372036854775807) (hl : str d = l) :
    Calls Tryd.prog 18 #[.int .i64 d] w fun e w' => e = .returned (.string ⟨l.toArray⟩) ∧ bw 61 32 w l = w' := by
  subst hl
  exact string_any w h1 h2

theorem str_zero : str 0 = [48, 115] := by decide +kernel
theorem str_neg {d : Int} (h : 0 < d) : str (-d) = 45 :: str d := by
  unfold str
  rw [if_pos (by omega), if_neg (by omega), Int.natAbs_neg]

end Go.Proofs.YteejjhdfebhagaaDoor
