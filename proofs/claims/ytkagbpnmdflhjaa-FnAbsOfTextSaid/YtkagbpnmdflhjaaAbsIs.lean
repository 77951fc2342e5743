/- The contract of impl.Abs at a named result. -/
import Derived.Test.YtkagbpnmdflhjaaAbsW
import Derived.Lib.Hide
namespace Go.Proofs.Ytkagbpnmdflhjaa

theorem abs_is {d t : Int} (w : World) (h1 : -9223372036854775808 ≤ d) (h2 : d ≤ 9223372036854775807) (ht : absd d = t) :
    Calls Try.prog 16 #[.int .i64 d] w fun e w' => e = .returned (.int .i64 t) ∧ w = w' := by
  subst ht
  exact abs_any d w h1 h2

theorem absd_pos {d : Int} (h : 0 ≤ d) : absd d = d := by unfold absd; rw [if_pos h]
theorem absd_neg {d : Int} (h : d < 0) (h2 : -9223372036854775808 < d) : absd d = -d := by
  unfold absd low
  rw [if_neg (by omega), if_neg (by omega)]
theorem absd_low : absd (-9223372036854775808) = 9223372036854775807 := by decide +kernel

end Go.Proofs.Ytkagbpnmdflhjaa
