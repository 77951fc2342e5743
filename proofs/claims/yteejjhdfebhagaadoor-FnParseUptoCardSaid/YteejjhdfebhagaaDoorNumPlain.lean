/- Plain laws on whole numbers: what Truncate, Round and Abs of a duration come to, with no program in sight. No conditions but the ranges that each lemma names. -/
import Derived.WalkKit
namespace Go.Proofs.YteejjhdfebhagaaDoor

theorem bounds_of {d : Int} (h : (Lit.int .i64 d).wf = true) : -9223372036854775808 ≤ d ∧ d ≤ 9223372036854775807 := by
  have e1 : IntKind.i64.min = -9223372036854775808 := by decide +kernel
  have e2 : IntKind.i64.max = 9223372036854775807 := by decide +kernel
  simpa only [Lit.wf, e1, e2, Bool.and_eq_true, decide_eq_true_eq] using h

theorem emod_le_self {a b : Int} (ha : 0 ≤ a) (hb : 0 < b) : a % b ≤ a := by
  have h1 := Int.mul_ediv_add_emod a b
  have h2 := Int.mul_nonneg (a := b) (b := a / b) (by omega) (Int.ediv_nonneg ha (by omega))
  omega

theorem tmod_neg {d m : Int} (hd : d ≤ 0) (hm : 0 < m) : d ≤ d.tmod m ∧ d.tmod m ≤ 0 ∧ -m < d.tmod m := by
  have e : d = -(-d) := by omega
  rw [e, Int.neg_tmod]
  have h1 := Int.tmod_nonneg m (a := -d) (by omega)
  have h2 := Int.tmod_lt_of_pos (-d) hm
  have h3 : (-d).tmod m ≤ -d := by
    rw [Int.tmod_eq_emod_of_nonneg (by omega)]
    exact emod_le_self (by omega) hm
  omega

theorem tmod_pos {d m : Int} (hd : 0 ≤ d) (hm : 0 < m) : d.tmod m ≤ d ∧ 0 ≤ d.tmod m ∧ d.tmod m < m := by
  have h1 := Int.tmod_nonneg m hd
  have h2 := Int.tmod_lt_of_pos d hm
  have h3 : d.tmod m ≤ d := by
    rw [Int.tmod_eq_emod_of_nonneg hd]
    exact emod_le_self hd hm
  omega

def trunc (d m : Int) : Int := if m ≤ 0 then d else d - d.tmod m

def top : Int := 9223372036854775807
def low : Int := -9223372036854775808

def roundd (d m : Int) : Int :=
  if m ≤ 0 then d
  else if d < 0 then
    if -d.tmod m + -d.tmod m < m then d + -d.tmod m
    else if low ≤ d - m - d.tmod m then d - m - d.tmod m else low
  else if d.tmod m + d.tmod m < m then d - d.tmod m
    else if d + m - d.tmod m ≤ top then d + m - d.tmod m else top

def absd (d : Int) : Int := if 0 ≤ d then d else if d = low then top else -d

theorem ret_int {k : IntKind} {a b : Int} (h : a = b) : Ending.returned (.int k a) = .returned (.int k b) := by rw [h]
theorem ret_bool {a b : Bool} (h : a = b) : Ending.returned (.bool a) = .returned (.bool b) := by rw [h]

def sized (d : Int) : Int := if d < 0 then -d else d

theorem size_neg {d : Int} (h1 : -9223372036854775808 ≤ d) (hd : d < 0) : IntKind.u64.wrap (-IntKind.u64.wrap d) = sized d := by
  unfold sized
  rw [if_pos hd]
  simp only [IntKind.wrap, IntKind.bits, IntKind.signed]
  simp
  omega

end Go.Proofs.YteejjhdfebhagaaDoor
