/- impl.Abs returns the plain absd d, for every int64, and leaves the world alone. -/
import Derived.Test.YtkagbpnmdflhjaaRows
import Derived.WalkKit
import Derived.ProofKit
import Derived.OpenShut
import Derived.Test.YtkagbpnmdflhjaaNumPlain
namespace Go.Proofs.Ytkagbpnmdflhjaa
open Go.ChangeShapes Go.WideShapes Go.ChangeAt Go.RowKit
set_option linter.unusedVariables false

theorem abs_any (d : Int) (w : World) (bd1 : -9223372036854775808 ≤ d) (bd2 : d ≤ 9223372036854775807) :
    Calls Try.prog 16 #[.int .i64 d] w fun e w' => e = .returned (.int .i64 (absd d)) ∧ w = w' := by
  rcases (show 0 ≤ d ∨ d = -9223372036854775808 ∨ (-9223372036854775807 ≤ d ∧ d < 0) by omega) with hd | hd | ⟨hd, hd'⟩
  · have ht : absd d = d := by unfold absd low top; (repeat' split) <;> omega
    rw [ht]
    clear ht
    go_enter Try.func16, Try.ntmps16
    go_wp2
    go_ret
    exact ⟨rfl, rfl⟩
  · subst hd
    have ht : absd (-9223372036854775808) = 9223372036854775807 := by unfold absd low top; (repeat' split) <;> omega
    rw [ht]
    clear ht
    go_enter Try.func16, Try.ntmps16
    go_wp2
    go_ret
    exact ⟨rfl, rfl⟩
  · have ht : absd d = -d := by unfold absd low top; (repeat' split) <;> omega
    rw [ht]
    clear ht
    go_enter Try.func16, Try.ntmps16
    go_wp2
    go_ret
    exact ⟨rfl, rfl⟩

end Go.Proofs.Ytkagbpnmdflhjaa
