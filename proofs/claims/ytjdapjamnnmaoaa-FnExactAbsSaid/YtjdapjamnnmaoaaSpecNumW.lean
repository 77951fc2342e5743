/- The reference functions spec.Truncate, spec.Round and spec.Abs return the plain functions of NumPlain, for every int64. -/
import Derived.Test.YtjdapjamnnmaoaaRows
import Derived.WalkKit
import Derived.ProofKit
import Derived.OpenShut
import Derived.Test.YtjdapjamnnmaoaaNumPlain
namespace Go.Proofs.Ytjdapjamnnmaoaa
open Go.ChangeShapes Go.WideShapes Go.ChangeAt Go.RowKit
set_option linter.unusedVariables false

theorem strunc_any (d m : Int) (w : World) (bd1 : -9223372036854775808 ≤ d) (bd2 : d ≤ 9223372036854775807) (bm1 : -9223372036854775808 ≤ m) (bm2 : m ≤ 9223372036854775807) :
    Calls Try.prog 21 #[.int .i64 d, .int .i64 m] w fun e w' => e = .returned (.int .i64 (trunc d m)) ∧ w = w' := by
  by_cases hm : m ≤ 0
  · have ht : trunc d m = d := by unfold trunc; rw [if_pos hm]
    rw [ht]
    clear ht
    go_enter Try.func21, Try.ntmps21
    go_wp2
    go_ret
    exact ⟨rfl, rfl⟩
  · have hm' : 0 < m := by omega
    have ht : trunc d m = d - d.tmod m := by unfold trunc; rw [if_neg hm]
    rw [ht]
    have b : -9223372036854775808 ≤ d - d.tmod m ∧ d - d.tmod m ≤ 9223372036854775807 := by
      by_cases hd : 0 ≤ d
      · have := tmod_pos hd hm'; omega
      · have := tmod_neg (d := d) (by omega) hm'; omega
    obtain ⟨b1, b2⟩ := b
    clear ht hm
    go_enter Try.func21, Try.ntmps21
    go_wp2
    go_ret
    exact ⟨rfl, rfl⟩

theorem sround_any (d m : Int) (w : World) (bd1 : -9223372036854775808 ≤ d) (bd2 : d ≤ 9223372036854775807) (bm1 : -9223372036854775808 ≤ m) (bm2 : m ≤ 9223372036854775807) :
    Calls Try.prog 27 #[.int .i64 d, .int .i64 m] w fun e w' => e = .returned (.int .i64 (roundd d m)) ∧ w = w' := by
  by_cases hm : m ≤ 0
  · have ht : roundd d m = d := by unfold roundd; rw [if_pos hm]
    rw [ht]
    clear ht
    go_enter Try.func27, Try.ntmps27
    go_wp2
    all_goals (go_ret; exact ⟨rfl, rfl⟩)
  · have hm' : 0 < m := by omega
    clear hm
    by_cases hd : d < 0
    · obtain ⟨t1, t2, t3⟩ := tmod_neg (d := d) (by omega) hm'
      by_cases hA : -d.tmod m + -d.tmod m < m
      · have hx : ¬ m + d.tmod m ≤ -d.tmod m := by omega
        have ht : roundd d m = d - d.tmod m := by unfold roundd low top; (repeat' split) <;> omega
        rw [ht]
        clear ht
        go_enter Try.func27, Try.ntmps27
        go_wp2
        all_goals (go_ret; exact ⟨rfl, rfl⟩)
      · have hA' : m + d.tmod m ≤ -d.tmod m := by omega
        have hz : d.tmod m < 0 := by omega
        clear hA
        by_cases hB : -9223372036854775808 ≤ d - m - d.tmod m
        · have hx : ¬ d - d.tmod m < -9223372036854775808 + m := by omega
          have ht : roundd d m = d - d.tmod m - m := by unfold roundd low top; (repeat' split) <;> omega
          rw [ht]
          clear ht
          go_enter Try.func27, Try.ntmps27
          go_wp2
          all_goals (go_ret; exact ⟨rfl, rfl⟩)
        · have hx : d - d.tmod m < -9223372036854775808 + m := by omega
          have ht : roundd d m = -9223372036854775808 := by unfold roundd low top; (repeat' split) <;> omega
          rw [ht]
          clear ht
          go_enter Try.func27, Try.ntmps27
          go_wp2
          all_goals (go_ret; exact ⟨rfl, rfl⟩)
    · have hd' : 0 ≤ d := by omega
      clear hd
      have e := Int.tmod_eq_emod_of_nonneg (b := m) hd'
      obtain ⟨t1, t2, t3⟩ := tmod_pos (d := d) (by omega) hm'
      rw [e] at t1 t2 t3
      by_cases hA : d % m + d % m < m
      · have hx : ¬ m - d % m ≤ d % m := by omega
        have ht : roundd d m = d - d % m := by unfold roundd low top; rw [e]; (repeat' split) <;> omega
        rw [ht]
        clear ht
        go_enter Try.func27, Try.ntmps27
        go_wp2
        all_goals (go_ret; exact ⟨rfl, rfl⟩)
      · have hA' : m - d % m ≤ d % m := by omega
        have hz : 0 < d % m := by omega
        clear hA
        by_cases hB : d + m - d % m ≤ 9223372036854775807
        · have hx : ¬ 9223372036854775807 - m < d - d % m := by omega
          have ht : roundd d m = d - d % m + m := by unfold roundd low top; rw [e]; (repeat' split) <;> omega
          rw [ht]
          clear ht
          go_enter Try.func27, Try.ntmps27
          go_wp2
          all_goals (go_ret; exact ⟨rfl, rfl⟩)
        · have hx : 9223372036854775807 - m < d - d % m := by omega
          have ht : roundd d m = 9223372036854775807 := by unfold roundd low top; rw [e]; (repeat' split) <;> omega
          rw [ht]
          clear ht
          go_enter Try.func27, Try.ntmps27
          go_wp2
          all_goals (go_ret; exact ⟨rfl, rfl⟩)

theorem sabs_any (d : Int) (w : World) (bd1 : -9223372036854775808 ≤ d) (bd2 : d ≤ 9223372036854775807) :
    Calls Try.prog 26 #[.int .i64 d] w fun e w' => e = .returned (.int .i64 (absd d)) ∧ w = w' := by
  rcases (show 0 ≤ d ∨ d = -9223372036854775808 ∨ (-9223372036854775807 ≤ d ∧ d < 0) by omega) with hd | hd | ⟨hd, hd'⟩
  · have ht : absd d = d := by unfold absd low top; (repeat' split) <;> omega
    rw [ht]
    clear ht
    go_enter Try.func26, Try.ntmps26
    go_wp2
    go_ret
    exact ⟨rfl, rfl⟩
  · subst hd
    have ht : absd (-9223372036854775808) = 9223372036854775807 := by unfold absd low top; (repeat' split) <;> omega
    rw [ht]
    clear ht
    go_enter Try.func26, Try.ntmps26
    go_wp2
    go_ret
    exact ⟨rfl, rfl⟩
  · have ht : absd d = -d := by unfold absd low top; (repeat' split) <;> omega
    rw [ht]
    clear ht
    go_enter Try.func26, Try.ntmps26
    go_wp2
    go_ret
    exact ⟨rfl, rfl⟩

end Go.Proofs.Ytjdapjamnnmaoaa
