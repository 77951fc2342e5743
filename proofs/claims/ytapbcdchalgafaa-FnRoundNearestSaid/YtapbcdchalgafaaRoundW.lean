/- impl.Round returns the plain roundd d m, for every int64 d and m, and leaves the world alone. -/
import Derived.Test.YtapbcdchalgafaaRows
import Derived.WalkKit
import Derived.ProofKit
import Derived.OpenShut
import Derived.Test.YtapbcdchalgafaaNumPlain
namespace Go.Proofs.Ytapbcdchalgafaa
open Go.ChangeShapes Go.WideShapes Go.ChangeAt Go.RowKit
set_option linter.unusedVariables false

theorem round_any (d m : Int) (w : World) (bd1 : -9223372036854775808 ≤ d) (bd2 : d ≤ 9223372036854775807) (bm1 : -9223372036854775808 ≤ m) (bm2 : m ≤ 9223372036854775807) :
    Calls Try.prog 10 #[.int .i64 d, .int .i64 m] w fun e w' => e = .returned (.int .i64 (roundd d m)) ∧ w = w' := by
  by_cases hm : m ≤ 0
  · have ht : roundd d m = d := by unfold roundd; rw [if_pos hm]
    rw [ht]
    clear ht
    go_enter Try.func10, Try.ntmps10
    go_wp2
    go_ret
    exact ⟨rfl, rfl⟩
  · have hm' : 0 < m := by omega
    clear hm
    by_cases hd : d < 0
    · obtain ⟨t1, t2, t3⟩ := tmod_neg (d := d) (by omega) hm'
      by_cases hA : -d.tmod m + -d.tmod m < m
      · have ht : roundd d m = d + -d.tmod m := by unfold roundd low top; (repeat' split) <;> omega
        rw [ht]
        clear ht
        go_enter Try.func10, Try.ntmps10
        go_wp2
        go_ret
        exact ⟨rfl, rfl⟩
      · have hA' : m ≤ -d.tmod m + -d.tmod m := by omega
        clear hA
        by_cases hB : -9223372036854775808 ≤ d - m - d.tmod m
        · have hx : wrap64 (wrap64 (d - m) + -d.tmod m) = d - m - d.tmod m := by unfold wrap64; omega
          have hy : d - m - d.tmod m < d := by omega
          have ht : roundd d m = d - m - d.tmod m := by unfold roundd low top; (repeat' split) <;> omega
          rw [ht]
          clear ht
          go_enter Try.func10, Try.ntmps10
          go_wp2
          go_ret
          exact ⟨rfl, rfl⟩
        · have hx : d ≤ wrap64 (wrap64 (d - m) + -d.tmod m) := by unfold wrap64; omega
          have ht : roundd d m = -9223372036854775808 := by unfold roundd low top; (repeat' split) <;> omega
          rw [ht]
          clear ht
          go_enter Try.func10, Try.ntmps10
          go_wp2
          go_ret
          exact ⟨rfl, rfl⟩
    · have hd' : 0 ≤ d := by omega
      clear hd
      have e := Int.tmod_eq_emod_of_nonneg (b := m) hd'
      obtain ⟨t1, t2, t3⟩ := tmod_pos (d := d) (by omega) hm'
      rw [e] at t1 t2 t3
      by_cases hA : d % m + d % m < m
      · have ht : roundd d m = d - d % m := by unfold roundd low top; rw [e]; (repeat' split) <;> omega
        rw [ht]
        clear ht
        go_enter Try.func10, Try.ntmps10
        go_wp2
        go_ret
        exact ⟨rfl, rfl⟩
      · have hA' : m ≤ d % m + d % m := by omega
        clear hA
        by_cases hB : d + m - d % m ≤ 9223372036854775807
        · have hx : wrap64 (wrap64 (d + m) - d % m) = d + m - d % m := by unfold wrap64; omega
          have hy : d < d + m - d % m := by omega
          have ht : roundd d m = d + m - d % m := by unfold roundd low top; rw [e]; (repeat' split) <;> omega
          rw [ht]
          clear ht
          go_enter Try.func10, Try.ntmps10
          go_wp2
          go_ret
          exact ⟨rfl, rfl⟩
        · have hx : wrap64 (wrap64 (d + m) - d % m) ≤ d := by unfold wrap64; omega
          have ht : roundd d m = 9223372036854775807 := by unfold roundd low top; rw [e]; (repeat' split) <;> omega
          rw [ht]
          clear ht
          go_enter Try.func10, Try.ntmps10
          go_wp2
          go_ret
          exact ⟨rfl, rfl⟩

end Go.Proofs.Ytapbcdchalgafaa
