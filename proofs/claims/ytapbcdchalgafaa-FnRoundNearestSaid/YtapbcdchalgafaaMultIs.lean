/- The contract of laws.multiple where the answer is known. -/
import Derived.Test.YtapbcdchalgafaaMultW
namespace Go.Proofs.Ytapbcdchalgafaa

theorem mult_yes {d m : Int} (w : World) (h1 : -9223372036854775808 ≤ d) (h2 : d ≤ 9223372036854775807) (h3 : -9223372036854775808 ≤ m) (h4 : m ≤ 9223372036854775807) (hm : 0 < m) (ht : d.tmod m = 0) :
    Calls Try.prog 11 #[.int .i64 d, .int .i64 m] w fun e w' => e = .returned (.bool true) ∧ w = w' := by
  have h := mult_any d m w h1 h2 h3 h4 hm
  rw [ht] at h
  exact h

theorem mult_no {d m : Int} (w : World) (h1 : -9223372036854775808 ≤ d) (h2 : d ≤ 9223372036854775807) (h3 : -9223372036854775808 ≤ m) (h4 : m ≤ 9223372036854775807) (hm : 0 < m) (ht : d.tmod m ≠ 0) :
    Calls Try.prog 11 #[.int .i64 d, .int .i64 m] w fun e w' => e = .returned (.bool false) ∧ w = w' := by
  have h := mult_any d m w h1 h2 h3 h4 hm
  rw [beq_false_of_ne ht] at h
  exact h

end Go.Proofs.Ytapbcdchalgafaa
