/- Contracts of laws.unitOf and laws.fits, and how a law's plain result is told by them. -/
import Derived.Test.YteejjhdfebhagaaDoorParseIs
import Derived.Test.YteejjhdfebhagaaDoorLawPlain
import Derived.Test.YteejjhdfebhagaaDoorDecB
namespace Go.Proofs.YteejjhdfebhagaaDoor
open Go.ChangeShapes Go.WideShapes Go.ChangeAt Go.RowKit
set_option linter.unusedVariables false

set_option maxHeartbeats 4000000 in
theorem unitOf_is {k : Int} {u : List UInt8} {B : Int} (w : World) (h0 : 0 ≤ k) (h7 : k ≤ 7) (hu : uname k.toNat = u) (hB : (uby k.toNat : Int) = B) :
    Calls Tryd.prog 24 #[.int .i64 k] w fun e w' => e = .returned (.tuple #[.string ⟨u.toArray⟩, .int .u64 B]) ∧ w = w' := by
  rcases (show k = 0 ∨ k = 1 ∨ k = 2 ∨ k = 3 ∨ k = 4 ∨ k = 5 ∨ k = 6 ∨ k = 7 by omega) with rfl | rfl | rfl | rfl | rfl | rfl | rfl | rfl
  all_goals
    subst hu
    subst hB
    clear h0 h7
    go_enter Tryd.func24, Tryd.ntmps24
    go_wp2
    go_ret2
    exact ⟨rfl, rfl⟩

def fitO (n : Int) (neg : Bool) : Bool := if neg then decide (n ≤ 9223372036854775808) else decide (n ≤ 9223372036854775807)
def fitD (n : Int) (neg : Bool) : Int := if fitO n neg then (if neg then -n else n) else 0

set_option maxHeartbeats 4000000 in
theorem fits_is (n : Int) (neg : Bool) (w : World) (h0 : 0 ≤ n) (h1 : n < 18446744073709551616) :
    Calls Tryd.prog 25 #[.int .u64 n, .bool neg] w fun e w' => e = .returned (.tuple #[.int .i64 (fitD n neg), .bool (fitO n neg)]) ∧ w = w' := by
  cases neg
  · by_cases h : n ≤ 9223372036854775807
    · have e1 : fitO n false = true := by unfold fitO; simp; exact h
      have e2 : fitD n false = n := by unfold fitD; rw [e1]; rfl
      rw [e1, e2]
      clear e1 e2
      go_enter Tryd.func25, Tryd.ntmps25
      go_wp2
      go_ret2
      exact ⟨rfl, rfl⟩
    · have e1 : fitO n false = false := by unfold fitO; simp; omega
      have e2 : fitD n false = 0 := by unfold fitD; rw [e1]; rfl
      rw [e1, e2]
      clear e1 e2
      by_cases h2 : n = 9223372036854775808
      · subst h2
        go_enter Tryd.func25, Tryd.ntmps25
        go_wp2
        go_ret2
        exact ⟨rfl, rfl⟩
      · have h3 : 9223372036854775808 < n := by omega
        go_enter Tryd.func25, Tryd.ntmps25
        go_wp2
        go_ret2
        exact ⟨rfl, rfl⟩
  · by_cases h : n ≤ 9223372036854775808
    · have e1 : fitO n true = true := by unfold fitO; simp; exact h
      have e2 : fitD n true = -n := by unfold fitD; rw [e1]; rfl
      rw [e1, e2]
      clear e1 e2
      by_cases h2 : n = 9223372036854775808
      · subst h2
        have hw : wrap64 (IntKind.u64.wrap (-9223372036854775808)) = -9223372036854775808 := by decide +kernel
        go_enter Tryd.func25, Tryd.ntmps25
        go_wp2
        go_ret2
        exact ⟨congrArg (fun z => Ending.returned (.tuple #[.int .i64 z, .bool true])) hw, rfl⟩
      · have h3 : (n == 9223372036854775808) = false := by rw [beq_eq_false_iff_ne]; exact h2
        have hw2 : wrap64 (IntKind.u64.wrap (-n)) = -n := by
          have e : IntKind.u64.wrap (-n) = (-n) % 18446744073709551616 := by unfold IntKind.wrap; simp [IntKind.bits, IntKind.signed]
          rw [e]; unfold wrap64; omega
        go_enter Tryd.func25, Tryd.ntmps25
        go_wp2
        go_ret2
        exact ⟨congrArg (fun z => Ending.returned (.tuple #[.int .i64 z, .bool true])) hw2, rfl⟩
    · have e1 : fitO n true = false := by unfold fitO; simp; omega
      have e2 : fitD n true = 0 := by unfold fitD; rw [e1]; rfl
      rw [e1, e2]
      clear e1 e2
      have h3 : 9223372036854775808 < n := by omega
      go_enter Tryd.func25, Tryd.ntmps25
      go_wp2
      go_ret2
      exact ⟨rfl, rfl⟩

theorem reads_pos {l : List UInt8} {X : Nat} {Y : Int} (hXY : (X : Int) = Y) (h : parse vf l = if X ≤ two63 - 1 then some (X : Int) else none) : Reads l (fitD Y false) (fitO Y false) := by
  subst hXY
  unfold fitD fitO
  by_cases h1 : X ≤ two63 - 1
  · rw [if_pos h1] at h
    have h2 : (X : Int) ≤ 9223372036854775807 := by unfold two63 at h1; omega
    simp only [Bool.false_eq_true, if_false, h2, decide_true, if_true]
    exact Or.inl ⟨rfl, h⟩
  · rw [if_neg h1] at h
    have h2 : ¬ (X : Int) ≤ 9223372036854775807 := by unfold two63 at h1; omega
    simp only [Bool.false_eq_true, if_false, h2, decide_false]
    exact Or.inr ⟨rfl, rfl, h⟩
theorem reads_neg {l : List UInt8} {X : Nat} {Y : Int} (hXY : (X : Int) = Y) (h : parse vf l = if X ≤ two63 then some (-(X : Int)) else none) : Reads l (fitD Y true) (fitO Y true) := by
  subst hXY
  unfold fitD fitO
  by_cases h1 : X ≤ two63
  · rw [if_pos h1] at h
    have h2 : (X : Int) ≤ 9223372036854775808 := by unfold two63 at h1; omega
    simp only [h2, decide_true, if_true]
    exact Or.inl ⟨rfl, h⟩
  · rw [if_neg h1] at h
    have h2 : ¬ (X : Int) ≤ 9223372036854775808 := by unfold two63 at h1; omega
    simp only [h2, decide_false, if_true, Bool.false_eq_true, if_false]
    exact Or.inr ⟨rfl, rfl, h⟩

theorem dl_app (a b : ByteArray) : (a ++ b).data.toList = a.data.toList ++ b.data.toList := by
  simp
theorem sz_app (a b : ByteArray) : (a ++ b).size = a.size + b.size := by simp
theorem dl_mk (l : List UInt8) : (⟨l.toArray⟩ : ByteArray).data.toList = l := rfl
theorem sz_mk (l : List UInt8) : (⟨l.toArray⟩ : ByteArray).size = l.length := rfl
theorem dec_20 {n : Nat} (h : n < 18446744073709551616) : (dec n).length ≤ 20 := dec_len (k := 20) (by omega) (by omega)

end Go.Proofs.YteejjhdfebhagaaDoor
