/- impl.Truncate returns the plain trunc d m, for every int64 d and m, and leaves the world alone. -/
import Derived.Test.YtapbcdchalgafaaRows
import Derived.WalkKit
import Derived.ProofKit
import Derived.OpenShut
import Derived.Test.YtapbcdchalgafaaNumPlain
namespace Go.Proofs.Ytapbcdchalgafaa
open Go.ChangeShapes Go.WideShapes Go.ChangeAt Go.RowKit

theorem trunc_any (d m : Int) (w : World) (bd1 : -9223372036854775808 ≤ d) (bd2 : d ≤ 9223372036854775807) (bm1 : -9223372036854775808 ≤ m) (bm2 : m ≤ 9223372036854775807) :
    Calls Try.prog 13 #[.int .i64 d, .int .i64 m] w fun e w' => e = .returned (.int .i64 (trunc d m)) ∧ w = w' := by
  by_cases hm : m ≤ 0
  · have ht : trunc d m = d := by unfold trunc; rw [if_pos hm]
    rw [ht]
    clear ht
    go_enter Try.func13, Try.ntmps13
    go_wp2
    go_ret
    exact ⟨rfl, rfl⟩
  · have hm' : 0 < m := by omega
    have ht : trunc d m = d - d.tmod m := by unfold trunc; rw [if_neg hm]
    rw [ht]
    have b : -9223372036854775808 ≤ d - d.tmod m ∧ d - d.tmod m ≤ 9223372036854775807 := by
      by_cases hd : 0 ≤ d
      · have := tmod_pos hd hm'; omega
      · have := tmod_neg (d := d) (by omega) hm'; omega
    obtain ⟨b1, b2⟩ := b
    clear ht hm
    go_enter Try.func13, Try.ntmps13
    go_wp2
    go_ret
    exact ⟨rfl, rfl⟩

end Go.Proofs.Ytapbcdchalgafaa
