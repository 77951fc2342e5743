/-
  No cell of these rows narrows 'for every input' (looked for: loops, veiled, ifaces, maps, wideKeys, modest, calm, conditions, laid).
  DERIVED. THE GIVEN ROWS OF THIS SEAT. 7 by the template 'for every input the law returns true; each argument reads behind the call as it read before'; 0 by the template 'total and deterministic' (their statements: YtapbcdchalgafaaTotals.lean).
  GIVEN WITH THE SEED: the statements are not yours to turn. If you find one false, say at which input.
  Laid BY PROGRAM, IN A SANDBOX (cutbox-rows.mjs): the forced cells as the released guide's own fill.sh prints them over the translation c35ee0b3494d9257… (all of the seat's roots in one cut). By AI agents, Wed Nov 11 2026. No macro, syntax, notation, axiom, sorry.
-/
import Derived.Test.YtapbcdchalgafaaChecked
import GoSem.Claim
import GoSem.ClaimJoined
import GoSem.ClaimMapViews
import Derived.JoinedTies
import Derived.KernelRfl
namespace Go.Proofs.Ytapbcdchalgafaa
/- THE CELL 'sum', in the pinned program and in every row, IS THE sha256 OF THE DUMP (.gsa) THAT YtapbcdchalgafaaProg.lean LOADS. Nothing in Lean hashes anything: it is a label: what it is worth is what the hold of that sum in a sandbox is worth. -/
noncomputable def Try.pinned : Pinned := { name := "ytapbcdchalgafaa", sum := "c35ee0b3494d9257d61497e45456442a287862bc7b438370f7d3e5f787d99581", checked := Try.checked }
namespace Rows
def none {H : Type} : Left H := { results := [], args := [] }

/-- 'laws.FnRoundAgain': WHATEVER THE INPUT: true; the input reads as it did. -/
def fnRoundAgainSpec : ChangeSpec := { name := "fnRoundAgain", fn := fun _ => fun
  | [d1, d2] => { results := [.lit (.bool true)], args := [d1, d2] }
  | _ => none }
def fnRoundAgainRow : OpenClaim := { program := "ytapbcdchalgafaa", sum := "c35ee0b3494d9257d61497e45456442a287862bc7b438370f7d3e5f787d99581", func := "loop.example/lib-g01188/laws.FnRoundAgain", spec := "fnRoundAgain", apart := false }
def FnRoundAgainSaid : Prop := fnRoundAgainRow.holds Try.pinned (OpenSpec.ofChange fnRoundAgainSpec)

/-- ITS FALSE NEIGHBOUR: 'it returns false'. Refute it at one input. -/
def fnRoundAgainWrong : ChangeSpec := { name := "fnRoundAgain", fn := fun _ => fun
  | [d1, d2] => { results := [.lit (.bool false)], args := [d1, d2] }
  | _ => none }
def FnRoundAgainWrongFalsely : Prop := fnRoundAgainRow.holds Try.pinned (OpenSpec.ofChange fnRoundAgainWrong)

/-- 'laws.FnRoundMirrored': WHATEVER THE INPUT: true; the input reads as it did. -/
def fnRoundMirroredSpec : ChangeSpec := { name := "fnRoundMirrored", fn := fun _ => fun
  | [d1, d2] => { results := [.lit (.bool true)], args := [d1, d2] }
  | _ => none }
def fnRoundMirroredRow : OpenClaim := { program := "ytapbcdchalgafaa", sum := "c35ee0b3494d9257d61497e45456442a287862bc7b438370f7d3e5f787d99581", func := "loop.example/lib-g01188/laws.FnRoundMirrored", spec := "fnRoundMirrored", apart := false }
def FnRoundMirroredSaid : Prop := fnRoundMirroredRow.holds Try.pinned (OpenSpec.ofChange fnRoundMirroredSpec)

/-- ITS FALSE NEIGHBOUR: 'it returns false'. Refute it at one input. -/
def fnRoundMirroredWrong : ChangeSpec := { name := "fnRoundMirrored", fn := fun _ => fun
  | [d1, d2] => { results := [.lit (.bool false)], args := [d1, d2] }
  | _ => none }
def FnRoundMirroredWrongFalsely : Prop := fnRoundMirroredRow.holds Try.pinned (OpenSpec.ofChange fnRoundMirroredWrong)

/-- 'laws.FnRoundNearest': WHATEVER THE INPUT: true; the input reads as it did. -/
def fnRoundNearestSpec : ChangeSpec := { name := "fnRoundNearest", fn := fun _ => fun
  | [d1, d2] => { results := [.lit (.bool true)], args := [d1, d2] }
  | _ => none }
def fnRoundNearestRow : OpenClaim := { program := "ytapbcdchalgafaa", sum := "c35ee0b3494d9257d61497e45456442a287862bc7b438370f7d3e5f787d99581", func := "loop.example/lib-g01188/laws.FnRoundNearest", spec := "fnRoundNearest", apart := false }
def FnRoundNearestSaid : Prop := fnRoundNearestRow.holds Try.pinned (OpenSpec.ofChange fnRoundNearestSpec)

/-- ITS FALSE NEIGHBOUR: 'it returns false'. Refute it at one input. -/
def fnRoundNearestWrong : ChangeSpec := { name := "fnRoundNearest", fn := fun _ => fun
  | [d1, d2] => { results := [.lit (.bool false)], args := [d1, d2] }
  | _ => none }
def FnRoundNearestWrongFalsely : Prop := fnRoundNearestRow.holds Try.pinned (OpenSpec.ofChange fnRoundNearestWrong)

/-- 'laws.FnRoundIsTruncate': WHATEVER THE INPUT: true; the input reads as it did. -/
def fnRoundIsTruncateSpec : ChangeSpec := { name := "fnRoundIsTruncate", fn := fun _ => fun
  | [d1, d2] => { results := [.lit (.bool true)], args := [d1, d2] }
  | _ => none }
def fnRoundIsTruncateRow : OpenClaim := { program := "ytapbcdchalgafaa", sum := "c35ee0b3494d9257d61497e45456442a287862bc7b438370f7d3e5f787d99581", func := "loop.example/lib-g01188/laws.FnRoundIsTruncate", spec := "fnRoundIsTruncate", apart := false }
def FnRoundIsTruncateSaid : Prop := fnRoundIsTruncateRow.holds Try.pinned (OpenSpec.ofChange fnRoundIsTruncateSpec)

/-- ITS FALSE NEIGHBOUR: 'it returns false'. Refute it at one input. -/
def fnRoundIsTruncateWrong : ChangeSpec := { name := "fnRoundIsTruncate", fn := fun _ => fun
  | [d1, d2] => { results := [.lit (.bool false)], args := [d1, d2] }
  | _ => none }
def FnRoundIsTruncateWrongFalsely : Prop := fnRoundIsTruncateRow.holds Try.pinned (OpenSpec.ofChange fnRoundIsTruncateWrong)

/-- 'laws.FnRoundMonotone': WHATEVER THE INPUT: true; the input reads as it did. -/
def fnRoundMonotoneSpec : ChangeSpec := { name := "fnRoundMonotone", fn := fun _ => fun
  | [d1, d2, d3] => { results := [.lit (.bool true)], args := [d1, d2, d3] }
  | _ => none }
def fnRoundMonotoneRow : OpenClaim := { program := "ytapbcdchalgafaa", sum := "c35ee0b3494d9257d61497e45456442a287862bc7b438370f7d3e5f787d99581", func := "loop.example/lib-g01188/laws.FnRoundMonotone", spec := "fnRoundMonotone", apart := false }
def FnRoundMonotoneSaid : Prop := fnRoundMonotoneRow.holds Try.pinned (OpenSpec.ofChange fnRoundMonotoneSpec)

/-- ITS FALSE NEIGHBOUR: 'it returns false'. Refute it at one input. -/
def fnRoundMonotoneWrong : ChangeSpec := { name := "fnRoundMonotone", fn := fun _ => fun
  | [d1, d2, d3] => { results := [.lit (.bool false)], args := [d1, d2, d3] }
  | _ => none }
def FnRoundMonotoneWrongFalsely : Prop := fnRoundMonotoneRow.holds Try.pinned (OpenSpec.ofChange fnRoundMonotoneWrong)

/-- 'laws.FnRoundOrTruncate': WHATEVER THE INPUT: true; the input reads as it did. -/
def fnRoundOrTruncateSpec : ChangeSpec := { name := "fnRoundOrTruncate", fn := fun _ => fun
  | [d1, d2] => { results := [.lit (.bool true)], args := [d1, d2] }
  | _ => none }
def fnRoundOrTruncateRow : OpenClaim := { program := "ytapbcdchalgafaa", sum := "c35ee0b3494d9257d61497e45456442a287862bc7b438370f7d3e5f787d99581", func := "loop.example/lib-g01188/laws.FnRoundOrTruncate", spec := "fnRoundOrTruncate", apart := false }
def FnRoundOrTruncateSaid : Prop := fnRoundOrTruncateRow.holds Try.pinned (OpenSpec.ofChange fnRoundOrTruncateSpec)

/-- ITS FALSE NEIGHBOUR: 'it returns false'. Refute it at one input. -/
def fnRoundOrTruncateWrong : ChangeSpec := { name := "fnRoundOrTruncate", fn := fun _ => fun
  | [d1, d2] => { results := [.lit (.bool false)], args := [d1, d2] }
  | _ => none }
def FnRoundOrTruncateWrongFalsely : Prop := fnRoundOrTruncateRow.holds Try.pinned (OpenSpec.ofChange fnRoundOrTruncateWrong)

/-- 'laws.FnAbsOfRounded': WHATEVER THE INPUT: true; the input reads as it did. -/
def fnAbsOfRoundedSpec : ChangeSpec := { name := "fnAbsOfRounded", fn := fun _ => fun
  | [d1, d2] => { results := [.lit (.bool true)], args := [d1, d2] }
  | _ => none }
def fnAbsOfRoundedRow : OpenClaim := { program := "ytapbcdchalgafaa", sum := "c35ee0b3494d9257d61497e45456442a287862bc7b438370f7d3e5f787d99581", func := "loop.example/lib-g01188/laws.FnAbsOfRounded", spec := "fnAbsOfRounded", apart := false }
def FnAbsOfRoundedSaid : Prop := fnAbsOfRoundedRow.holds Try.pinned (OpenSpec.ofChange fnAbsOfRoundedSpec)

/-- ITS FALSE NEIGHBOUR: 'it returns false'. Refute it at one input. -/
def fnAbsOfRoundedWrong : ChangeSpec := { name := "fnAbsOfRounded", fn := fun _ => fun
  | [d1, d2] => { results := [.lit (.bool false)], args := [d1, d2] }
  | _ => none }
def FnAbsOfRoundedWrongFalsely : Prop := fnAbsOfRoundedRow.holds Try.pinned (OpenSpec.ofChange fnAbsOfRoundedWrong)

/- THE SECOND FORM. 'bulk': how many values and letters a reading holds, each counted each time it is reached (what is shared counts as often as it is met; a slice's spare places count too). A statement '..UptoSaid' is the law's where the arguments, and the package variables that the reading takes, are together of bulk at most 1048576: NARROWER than '..Said'. Prove '..Said' where nothing that the law and all that it calls make is longer than what came in: it says more and counts as full. Else prove '..UptoSaid'. A law counts once. -/
mutual
def uptoBulk {H : Type} : DataW H → Nat
  | .lit (.string bytes) => bytes.length + 1
  | .lit _ => 1
  | .nil => 1
  | .ptr d => uptoBulk d + 1
  | .slice elems spare => uptoBulkAll elems + uptoBulkAll spare + 1
  | .agg parts => uptoBulkAll parts + 1
  | .iface _ d => uptoBulk d + 1
  | .map entries => uptoBulkEntries entries + 1
  | .held _ => 1
def uptoBulkAll {H : Type} : List (DataW H) → Nat
  | [] => 0
  | d :: r => uptoBulk d + uptoBulkAll r
def uptoBulkEntries {H : Type} : List (Lit × DataW H) → Nat
  | [] => 0
  | x :: r => uptoBulkEntry x + uptoBulkEntries r
def uptoBulkEntry {H : Type} : Lit × DataW H → Nat
  | (.string bytes, d) => bytes.length + uptoBulk d + 1
  | (_, d) => uptoBulk d + 1
 end
def uptoSmall : (H : Type) → List (DataW H) → Bool := fun _ ds => decide (uptoBulkAll ds ≤ 1048576)
def OpenSpec.upto (s : _root_.Go.ChangeSpec) : _root_.Go.OpenSpec := { _root_.Go.OpenSpec.ofChange s with cond := some uptoSmall }

/-- 'laws.FnRoundAgain', WHERE WHAT IT READS IS OF BULK AT MOST 1048576: true; the input reads as it did. -/
def fnRoundAgainUptoRow : OpenClaim := { program := "ytapbcdchalgafaa", sum := "c35ee0b3494d9257d61497e45456442a287862bc7b438370f7d3e5f787d99581", func := "loop.example/lib-g01188/laws.FnRoundAgain", spec := "fnRoundAgain", apart := false, narrowed := true }
def FnRoundAgainUptoSaid : Prop := fnRoundAgainUptoRow.holds Try.pinned (OpenSpec.upto fnRoundAgainSpec)

/-- 'laws.FnRoundMirrored', WHERE WHAT IT READS IS OF BULK AT MOST 1048576: true; the input reads as it did. -/
def fnRoundMirroredUptoRow : OpenClaim := { program := "ytapbcdchalgafaa", sum := "c35ee0b3494d9257d61497e45456442a287862bc7b438370f7d3e5f787d99581", func := "loop.example/lib-g01188/laws.FnRoundMirrored", spec := "fnRoundMirrored", apart := false, narrowed := true }
def FnRoundMirroredUptoSaid : Prop := fnRoundMirroredUptoRow.holds Try.pinned (OpenSpec.upto fnRoundMirroredSpec)

/-- 'laws.FnRoundNearest', WHERE WHAT IT READS IS OF BULK AT MOST 1048576: true; the input reads as it did. -/
def fnRoundNearestUptoRow : OpenClaim := { program := "ytapbcdchalgafaa", sum := "c35ee0b3494d9257d61497e45456442a287862bc7b438370f7d3e5f787d99581", func := "loop.example/lib-g01188/laws.FnRoundNearest", spec := "fnRoundNearest", apart := false, narrowed := true }
def FnRoundNearestUptoSaid : Prop := fnRoundNearestUptoRow.holds Try.pinned (OpenSpec.upto fnRoundNearestSpec)

/-- 'laws.FnRoundIsTruncate', WHERE WHAT IT READS IS OF BULK AT MOST 1048576: true; the input reads as it did. -/
def fnRoundIsTruncateUptoRow : OpenClaim := { program := "ytapbcdchalgafaa", sum := "c35ee0b3494d9257d61497e45456442a287862bc7b438370f7d3e5f787d99581", func := "loop.example/lib-g01188/laws.FnRoundIsTruncate", spec := "fnRoundIsTruncate", apart := false, narrowed := true }
def FnRoundIsTruncateUptoSaid : Prop := fnRoundIsTruncateUptoRow.holds Try.pinned (OpenSpec.upto fnRoundIsTruncateSpec)

/-- 'laws.FnRoundMonotone', WHERE WHAT IT READS IS OF BULK AT MOST 1048576: true; the input reads as it did. -/
def fnRoundMonotoneUptoRow : OpenClaim := { program := "ytapbcdchalgafaa", sum := "c35ee0b3494d9257d61497e45456442a287862bc7b438370f7d3e5f787d99581", func := "loop.example/lib-g01188/laws.FnRoundMonotone", spec := "fnRoundMonotone", apart := false, narrowed := true }
def FnRoundMonotoneUptoSaid : Prop := fnRoundMonotoneUptoRow.holds Try.pinned (OpenSpec.upto fnRoundMonotoneSpec)

/-- 'laws.FnRoundOrTruncate', WHERE WHAT IT READS IS OF BULK AT MOST 1048576: true; the input reads as it did. -/
def fnRoundOrTruncateUptoRow : OpenClaim := { program := "ytapbcdchalgafaa", sum := "c35ee0b3494d9257d61497e45456442a287862bc7b438370f7d3e5f787d99581", func := "loop.example/lib-g01188/laws.FnRoundOrTruncate", spec := "fnRoundOrTruncate", apart := false, narrowed := true }
def FnRoundOrTruncateUptoSaid : Prop := fnRoundOrTruncateUptoRow.holds Try.pinned (OpenSpec.upto fnRoundOrTruncateSpec)

/-- 'laws.FnAbsOfRounded', WHERE WHAT IT READS IS OF BULK AT MOST 1048576: true; the input reads as it did. -/
def fnAbsOfRoundedUptoRow : OpenClaim := { program := "ytapbcdchalgafaa", sum := "c35ee0b3494d9257d61497e45456442a287862bc7b438370f7d3e5f787d99581", func := "loop.example/lib-g01188/laws.FnAbsOfRounded", spec := "fnAbsOfRounded", apart := false, narrowed := true }
def FnAbsOfRoundedUptoSaid : Prop := fnAbsOfRoundedUptoRow.holds Try.pinned (OpenSpec.upto fnAbsOfRoundedSpec)

end Rows
end Go.Proofs.Ytapbcdchalgafaa
