/- The bounds of a uint64. -/
import Derived.Test.YteejjhdfebhagaaDoorRows
import Derived.WalkKit
import Derived.ProofKit
namespace Go.Proofs.YteejjhdfebhagaaDoor
theorem ubounds_of {d : Int} (h : (Lit.int .u64 d).wf = true) : 0 ≤ d ∧ d ≤ 18446744073709551615 := by
  simp [Lit.wf, IntKind.min, IntKind.max, IntKind.signed, IntKind.bits] at h
  omega
end Go.Proofs.YteejjhdfebhagaaDoor
