/-
  No cell of these rows narrows 'for every input' (looked for: loops, veiled, ifaces, maps, wideKeys, modest, calm, conditions, laid).
  DERIVED. THE GIVEN ROWS OF THIS SEAT. 12 by the template 'for every input the law returns true; each argument reads behind the call as it read before'; 0 by the template 'total and deterministic' (their statements: YtjdapjamnnmaoaaTotals.lean).
  GIVEN WITH THE SEED: the statements are not yours to turn. If you find one false, say at which input.
  Laid BY PROGRAM, IN A SANDBOX (cutbox-rows.mjs): the forced cells as the released guide's own fill.sh prints them over the translation 51de8479d0f88844… (all of the seat's roots in one cut). By AI agents, Wed Nov 11 2026. No macro, syntax, notation, axiom, sorry.
-/
import Derived.Test.YtjdapjamnnmaoaaChecked
import GoSem.Claim
import GoSem.ClaimJoined
import GoSem.ClaimMapViews
import Derived.JoinedTies
import Derived.KernelRfl
namespace Go.Proofs.Ytjdapjamnnmaoaa
/- THE CELL 'sum', in the pinned program and in every row, IS THE sha256 OF THE DUMP (.gsa) THAT YtjdapjamnnmaoaaProg.lean LOADS. Nothing in Lean hashes anything: it is a label: what it is worth is what the hold of that sum in a sandbox is worth. -/
noncomputable def Try.pinned : Pinned := { name := "ytjdapjamnnmaoaa", sum := "51de8479d0f888449335b6896e8aebcceab3441dc2b510d1e3347a7c59b9af0c", checked := Try.checked }
namespace Rows
def none {H : Type} : Left H := { results := [], args := [] }

/-- 'laws.FnExactMicroseconds': WHATEVER THE INPUT: true; the input reads as it did. -/
def fnExactMicrosecondsSpec : ChangeSpec := { name := "fnExactMicroseconds", fn := fun _ => fun
  | [d] => { results := [.lit (.bool true)], args := [d] }
  | _ => none }
def fnExactMicrosecondsRow : OpenClaim := { program := "ytjdapjamnnmaoaa", sum := "51de8479d0f888449335b6896e8aebcceab3441dc2b510d1e3347a7c59b9af0c", func := "loop.example/lib-g01188/laws.FnExactMicroseconds", spec := "fnExactMicroseconds", apart := false }
def FnExactMicrosecondsSaid : Prop := fnExactMicrosecondsRow.holds Try.pinned (OpenSpec.ofChange fnExactMicrosecondsSpec)

/-- ITS FALSE NEIGHBOUR: 'it returns false'. Refute it at one input. -/
def fnExactMicrosecondsWrong : ChangeSpec := { name := "fnExactMicroseconds", fn := fun _ => fun
  | [d] => { results := [.lit (.bool false)], args := [d] }
  | _ => none }
def FnExactMicrosecondsWrongFalsely : Prop := fnExactMicrosecondsRow.holds Try.pinned (OpenSpec.ofChange fnExactMicrosecondsWrong)

/-- 'laws.FnExactMilliseconds': WHATEVER THE INPUT: true; the input reads as it did. -/
def fnExactMillisecondsSpec : ChangeSpec := { name := "fnExactMilliseconds", fn := fun _ => fun
  | [d] => { results := [.lit (.bool true)], args := [d] }
  | _ => none }
def fnExactMillisecondsRow : OpenClaim := { program := "ytjdapjamnnmaoaa", sum := "51de8479d0f888449335b6896e8aebcceab3441dc2b510d1e3347a7c59b9af0c", func := "loop.example/lib-g01188/laws.FnExactMilliseconds", spec := "fnExactMilliseconds", apart := false }
def FnExactMillisecondsSaid : Prop := fnExactMillisecondsRow.holds Try.pinned (OpenSpec.ofChange fnExactMillisecondsSpec)

/-- ITS FALSE NEIGHBOUR: 'it returns false'. Refute it at one input. -/
def fnExactMillisecondsWrong : ChangeSpec := { name := "fnExactMilliseconds", fn := fun _ => fun
  | [d] => { results := [.lit (.bool false)], args := [d] }
  | _ => none }
def FnExactMillisecondsWrongFalsely : Prop := fnExactMillisecondsRow.holds Try.pinned (OpenSpec.ofChange fnExactMillisecondsWrong)

/-- 'laws.FnExactNanoseconds': WHATEVER THE INPUT: true; the input reads as it did. -/
def fnExactNanosecondsSpec : ChangeSpec := { name := "fnExactNanoseconds", fn := fun _ => fun
  | [d] => { results := [.lit (.bool true)], args := [d] }
  | _ => none }
def fnExactNanosecondsRow : OpenClaim := { program := "ytjdapjamnnmaoaa", sum := "51de8479d0f888449335b6896e8aebcceab3441dc2b510d1e3347a7c59b9af0c", func := "loop.example/lib-g01188/laws.FnExactNanoseconds", spec := "fnExactNanoseconds", apart := false }
def FnExactNanosecondsSaid : Prop := fnExactNanosecondsRow.holds Try.pinned (OpenSpec.ofChange fnExactNanosecondsSpec)

/-- ITS FALSE NEIGHBOUR: 'it returns false'. Refute it at one input. -/
def fnExactNanosecondsWrong : ChangeSpec := { name := "fnExactNanoseconds", fn := fun _ => fun
  | [d] => { results := [.lit (.bool false)], args := [d] }
  | _ => none }
def FnExactNanosecondsWrongFalsely : Prop := fnExactNanosecondsRow.holds Try.pinned (OpenSpec.ofChange fnExactNanosecondsWrong)

/-- 'laws.FnExactTruncate': WHATEVER THE INPUT: true; the input reads as it did. -/
def fnExactTruncateSpec : ChangeSpec := { name := "fnExactTruncate", fn := fun _ => fun
  | [d1, d2] => { results := [.lit (.bool true)], args := [d1, d2] }
  | _ => none }
def fnExactTruncateRow : OpenClaim := { program := "ytjdapjamnnmaoaa", sum := "51de8479d0f888449335b6896e8aebcceab3441dc2b510d1e3347a7c59b9af0c", func := "loop.example/lib-g01188/laws.FnExactTruncate", spec := "fnExactTruncate", apart := false }
def FnExactTruncateSaid : Prop := fnExactTruncateRow.holds Try.pinned (OpenSpec.ofChange fnExactTruncateSpec)

/-- ITS FALSE NEIGHBOUR: 'it returns false'. Refute it at one input. -/
def fnExactTruncateWrong : ChangeSpec := { name := "fnExactTruncate", fn := fun _ => fun
  | [d1, d2] => { results := [.lit (.bool false)], args := [d1, d2] }
  | _ => none }
def FnExactTruncateWrongFalsely : Prop := fnExactTruncateRow.holds Try.pinned (OpenSpec.ofChange fnExactTruncateWrong)

/-- 'laws.FnTruncate': WHATEVER THE INPUT: true; the input reads as it did. -/
def fnTruncateSpec : ChangeSpec := { name := "fnTruncate", fn := fun _ => fun
  | [d1, d2] => { results := [.lit (.bool true)], args := [d1, d2] }
  | _ => none }
def fnTruncateRow : OpenClaim := { program := "ytjdapjamnnmaoaa", sum := "51de8479d0f888449335b6896e8aebcceab3441dc2b510d1e3347a7c59b9af0c", func := "loop.example/lib-g01188/laws.FnTruncate", spec := "fnTruncate", apart := false }
def FnTruncateSaid : Prop := fnTruncateRow.holds Try.pinned (OpenSpec.ofChange fnTruncateSpec)

/-- ITS FALSE NEIGHBOUR: 'it returns false'. Refute it at one input. -/
def fnTruncateWrong : ChangeSpec := { name := "fnTruncate", fn := fun _ => fun
  | [d1, d2] => { results := [.lit (.bool false)], args := [d1, d2] }
  | _ => none }
def FnTruncateWrongFalsely : Prop := fnTruncateRow.holds Try.pinned (OpenSpec.ofChange fnTruncateWrong)

/-- 'laws.FnTruncateSplits': WHATEVER THE INPUT: true; the input reads as it did. -/
def fnTruncateSplitsSpec : ChangeSpec := { name := "fnTruncateSplits", fn := fun _ => fun
  | [d1, d2] => { results := [.lit (.bool true)], args := [d1, d2] }
  | _ => none }
def fnTruncateSplitsRow : OpenClaim := { program := "ytjdapjamnnmaoaa", sum := "51de8479d0f888449335b6896e8aebcceab3441dc2b510d1e3347a7c59b9af0c", func := "loop.example/lib-g01188/laws.FnTruncateSplits", spec := "fnTruncateSplits", apart := false }
def FnTruncateSplitsSaid : Prop := fnTruncateSplitsRow.holds Try.pinned (OpenSpec.ofChange fnTruncateSplitsSpec)

/-- ITS FALSE NEIGHBOUR: 'it returns false'. Refute it at one input. -/
def fnTruncateSplitsWrong : ChangeSpec := { name := "fnTruncateSplits", fn := fun _ => fun
  | [d1, d2] => { results := [.lit (.bool false)], args := [d1, d2] }
  | _ => none }
def FnTruncateSplitsWrongFalsely : Prop := fnTruncateSplitsRow.holds Try.pinned (OpenSpec.ofChange fnTruncateSplitsWrong)

/-- 'laws.FnTruncateTwice': WHATEVER THE INPUT: true; the input reads as it did. -/
def fnTruncateTwiceSpec : ChangeSpec := { name := "fnTruncateTwice", fn := fun _ => fun
  | [d1, d2, d3] => { results := [.lit (.bool true)], args := [d1, d2, d3] }
  | _ => none }
def fnTruncateTwiceRow : OpenClaim := { program := "ytjdapjamnnmaoaa", sum := "51de8479d0f888449335b6896e8aebcceab3441dc2b510d1e3347a7c59b9af0c", func := "loop.example/lib-g01188/laws.FnTruncateTwice", spec := "fnTruncateTwice", apart := false }
def FnTruncateTwiceSaid : Prop := fnTruncateTwiceRow.holds Try.pinned (OpenSpec.ofChange fnTruncateTwiceSpec)

/-- ITS FALSE NEIGHBOUR: 'it returns false'. Refute it at one input. -/
def fnTruncateTwiceWrong : ChangeSpec := { name := "fnTruncateTwice", fn := fun _ => fun
  | [d1, d2, d3] => { results := [.lit (.bool false)], args := [d1, d2, d3] }
  | _ => none }
def FnTruncateTwiceWrongFalsely : Prop := fnTruncateTwiceRow.holds Try.pinned (OpenSpec.ofChange fnTruncateTwiceWrong)

/-- 'laws.FnCountsOfWhole': WHATEVER THE INPUT: true; the input reads as it did. -/
def fnCountsOfWholeSpec : ChangeSpec := { name := "fnCountsOfWhole", fn := fun _ => fun
  | [d] => { results := [.lit (.bool true)], args := [d] }
  | _ => none }
def fnCountsOfWholeRow : OpenClaim := { program := "ytjdapjamnnmaoaa", sum := "51de8479d0f888449335b6896e8aebcceab3441dc2b510d1e3347a7c59b9af0c", func := "loop.example/lib-g01188/laws.FnCountsOfWhole", spec := "fnCountsOfWhole", apart := false }
def FnCountsOfWholeSaid : Prop := fnCountsOfWholeRow.holds Try.pinned (OpenSpec.ofChange fnCountsOfWholeSpec)

/-- ITS FALSE NEIGHBOUR: 'it returns false'. Refute it at one input. -/
def fnCountsOfWholeWrong : ChangeSpec := { name := "fnCountsOfWhole", fn := fun _ => fun
  | [d] => { results := [.lit (.bool false)], args := [d] }
  | _ => none }
def FnCountsOfWholeWrongFalsely : Prop := fnCountsOfWholeRow.holds Try.pinned (OpenSpec.ofChange fnCountsOfWholeWrong)

/-- 'laws.FnAbs': WHATEVER THE INPUT: true; the input reads as it did. -/
def fnAbsSpec : ChangeSpec := { name := "fnAbs", fn := fun _ => fun
  | [d] => { results := [.lit (.bool true)], args := [d] }
  | _ => none }
def fnAbsRow : OpenClaim := { program := "ytjdapjamnnmaoaa", sum := "51de8479d0f888449335b6896e8aebcceab3441dc2b510d1e3347a7c59b9af0c", func := "loop.example/lib-g01188/laws.FnAbs", spec := "fnAbs", apart := false }
def FnAbsSaid : Prop := fnAbsRow.holds Try.pinned (OpenSpec.ofChange fnAbsSpec)

/-- ITS FALSE NEIGHBOUR: 'it returns false'. Refute it at one input. -/
def fnAbsWrong : ChangeSpec := { name := "fnAbs", fn := fun _ => fun
  | [d] => { results := [.lit (.bool false)], args := [d] }
  | _ => none }
def FnAbsWrongFalsely : Prop := fnAbsRow.holds Try.pinned (OpenSpec.ofChange fnAbsWrong)

/-- 'laws.FnExactAbs': WHATEVER THE INPUT: true; the input reads as it did. -/
def fnExactAbsSpec : ChangeSpec := { name := "fnExactAbs", fn := fun _ => fun
  | [d] => { results := [.lit (.bool true)], args := [d] }
  | _ => none }
def fnExactAbsRow : OpenClaim := { program := "ytjdapjamnnmaoaa", sum := "51de8479d0f888449335b6896e8aebcceab3441dc2b510d1e3347a7c59b9af0c", func := "loop.example/lib-g01188/laws.FnExactAbs", spec := "fnExactAbs", apart := false }
def FnExactAbsSaid : Prop := fnExactAbsRow.holds Try.pinned (OpenSpec.ofChange fnExactAbsSpec)

/-- ITS FALSE NEIGHBOUR: 'it returns false'. Refute it at one input. -/
def fnExactAbsWrong : ChangeSpec := { name := "fnExactAbs", fn := fun _ => fun
  | [d] => { results := [.lit (.bool false)], args := [d] }
  | _ => none }
def FnExactAbsWrongFalsely : Prop := fnExactAbsRow.holds Try.pinned (OpenSpec.ofChange fnExactAbsWrong)

/-- 'laws.FnCounts': WHATEVER THE INPUT: true; the input reads as it did. -/
def fnCountsSpec : ChangeSpec := { name := "fnCounts", fn := fun _ => fun
  | [d] => { results := [.lit (.bool true)], args := [d] }
  | _ => none }
def fnCountsRow : OpenClaim := { program := "ytjdapjamnnmaoaa", sum := "51de8479d0f888449335b6896e8aebcceab3441dc2b510d1e3347a7c59b9af0c", func := "loop.example/lib-g01188/laws.FnCounts", spec := "fnCounts", apart := false }
def FnCountsSaid : Prop := fnCountsRow.holds Try.pinned (OpenSpec.ofChange fnCountsSpec)

/-- ITS FALSE NEIGHBOUR: 'it returns false'. Refute it at one input. -/
def fnCountsWrong : ChangeSpec := { name := "fnCounts", fn := fun _ => fun
  | [d] => { results := [.lit (.bool false)], args := [d] }
  | _ => none }
def FnCountsWrongFalsely : Prop := fnCountsRow.holds Try.pinned (OpenSpec.ofChange fnCountsWrong)

/-- 'laws.FnExactRound': WHATEVER THE INPUT: true; the input reads as it did. -/
def fnExactRoundSpec : ChangeSpec := { name := "fnExactRound", fn := fun _ => fun
  | [d1, d2] => { results := [.lit (.bool true)], args := [d1, d2] }
  | _ => none }
def fnExactRoundRow : OpenClaim := { program := "ytjdapjamnnmaoaa", sum := "51de8479d0f888449335b6896e8aebcceab3441dc2b510d1e3347a7c59b9af0c", func := "loop.example/lib-g01188/laws.FnExactRound", spec := "fnExactRound", apart := false }
def FnExactRoundSaid : Prop := fnExactRoundRow.holds Try.pinned (OpenSpec.ofChange fnExactRoundSpec)

/-- ITS FALSE NEIGHBOUR: 'it returns false'. Refute it at one input. -/
def fnExactRoundWrong : ChangeSpec := { name := "fnExactRound", fn := fun _ => fun
  | [d1, d2] => { results := [.lit (.bool false)], args := [d1, d2] }
  | _ => none }
def FnExactRoundWrongFalsely : Prop := fnExactRoundRow.holds Try.pinned (OpenSpec.ofChange fnExactRoundWrong)

/- THE SECOND FORM. 'bulk': how many values and letters a reading holds, each counted each time it is reached (what is shared counts as often as it is met; a slice's spare places count too). A statement '..UptoSaid' is the law's where the arguments, and the package variables that the reading takes, are together of bulk at most 1048576: NARROWER than '..Said'. Prove '..Said' where nothing that the law and all that it calls make is longer than what came in: it says more and counts as full. Else prove '..UptoSaid'. A law counts once. -/
mutual
def uptoBulk {H : Type} : DataW H → Nat
  | .lit (.string bytes) => bytes.length + 1
  | .lit _ => 1
  | .nil => 1
  | .ptr d => uptoBulk d + 1
  | .slice elems spare => uptoBulkAll elems + uptoBulkAll spare + 1
  | .agg parts => uptoBulkAll parts + 1
  | .iface _ d => uptoBulk d + 1
  | .map entries => uptoBulkEntries entries + 1
  | .held _ => 1
def uptoBulkAll {H : Type} : List (DataW H) → Nat
  | [] => 0
  | d :: r => uptoBulk d + uptoBulkAll r
def uptoBulkEntries {H : Type} : List (Lit × DataW H) → Nat
  | [] => 0
  | x :: r => uptoBulkEntry x + uptoBulkEntries r
def uptoBulkEntry {H : Type} : Lit × DataW H → Nat
  | (.string bytes, d) => bytes.length + uptoBulk d + 1
  | (_, d) => uptoBulk d + 1
 end
def uptoSmall : (H : Type) → List (DataW H) → Bool := fun _ ds => decide (uptoBulkAll ds ≤ 1048576)
def OpenSpec.upto (s : _root_.Go.ChangeSpec) : _root_.Go.OpenSpec := { _root_.Go.OpenSpec.ofChange s with cond := some uptoSmall }

/-- 'laws.FnExactMicroseconds', WHERE WHAT IT READS IS OF BULK AT MOST 1048576: true; the input reads as it did. -/
def fnExactMicrosecondsUptoRow : OpenClaim := { program := "ytjdapjamnnmaoaa", sum := "51de8479d0f888449335b6896e8aebcceab3441dc2b510d1e3347a7c59b9af0c", func := "loop.example/lib-g01188/laws.FnExactMicroseconds", spec := "fnExactMicroseconds", apart := false, narrowed := true }
def FnExactMicrosecondsUptoSaid : Prop := fnExactMicrosecondsUptoRow.holds Try.pinned (OpenSpec.upto fnExactMicrosecondsSpec)

/-- 'laws.FnExactMilliseconds', WHERE WHAT IT READS IS OF BULK AT MOST 1048576: true; the input reads as it did. -/
def fnExactMillisecondsUptoRow : OpenClaim := { program := "ytjdapjamnnmaoaa", sum := "51de8479d0f888449335b6896e8aebcceab3441dc2b510d1e3347a7c59b9af0c", func := "loop.example/lib-g01188/laws.FnExactMilliseconds", spec := "fnExactMilliseconds", apart := false, narrowed := true }
def FnExactMillisecondsUptoSaid : Prop := fnExactMillisecondsUptoRow.holds Try.pinned (OpenSpec.upto fnExactMillisecondsSpec)

/-- 'laws.FnExactNanoseconds', WHERE WHAT IT READS IS OF BULK AT MOST 1048576: true; the input reads as it did. -/
def fnExactNanosecondsUptoRow : OpenClaim := { program := "ytjdapjamnnmaoaa", sum := "51de8479d0f888449335b6896e8aebcceab3441dc2b510d1e3347a7c59b9af0c", func := "loop.example/lib-g01188/laws.FnExactNanoseconds", spec := "fnExactNanoseconds", apart := false, narrowed := true }
def FnExactNanosecondsUptoSaid : Prop := fnExactNanosecondsUptoRow.holds Try.pinned (OpenSpec.upto fnExactNanosecondsSpec)

/-- 'laws.FnExactTruncate', WHERE WHAT IT READS IS OF BULK AT MOST 1048576: true; the input reads as it did. -/
def fnExactTruncateUptoRow : OpenClaim := { program := "ytjdapjamnnmaoaa", sum := "51de8479d0f888449335b6896e8aebcceab3441dc2b510d1e3347a7c59b9af0c", func := "loop.example/lib-g01188/laws.FnExactTruncate", spec := "fnExactTruncate", apart := false, narrowed := true }
def FnExactTruncateUptoSaid : Prop := fnExactTruncateUptoRow.holds Try.pinned (OpenSpec.upto fnExactTruncateSpec)

/-- 'laws.FnTruncate', WHERE WHAT IT READS IS OF BULK AT MOST 1048576: true; the input reads as it did. -/
def fnTruncateUptoRow : OpenClaim := { program := "ytjdapjamnnmaoaa", sum := "51de8479d0f888449335b6896e8aebcceab3441dc2b510d1e3347a7c59b9af0c", func := "loop.example/lib-g01188/laws.FnTruncate", spec := "fnTruncate", apart := false, narrowed := true }
def FnTruncateUptoSaid : Prop := fnTruncateUptoRow.holds Try.pinned (OpenSpec.upto fnTruncateSpec)

/-- 'laws.FnTruncateSplits', WHERE WHAT IT READS IS OF BULK AT MOST 1048576: true; the input reads as it did. -/
def fnTruncateSplitsUptoRow : OpenClaim := { program := "ytjdapjamnnmaoaa", sum := "51de8479d0f888449335b6896e8aebcceab3441dc2b510d1e3347a7c59b9af0c", func := "loop.example/lib-g01188/laws.FnTruncateSplits", spec := "fnTruncateSplits", apart := false, narrowed := true }
def FnTruncateSplitsUptoSaid : Prop := fnTruncateSplitsUptoRow.holds Try.pinned (OpenSpec.upto fnTruncateSplitsSpec)

/-- 'laws.FnTruncateTwice', WHERE WHAT IT READS IS OF BULK AT MOST 1048576: true; the input reads as it did. -/
def fnTruncateTwiceUptoRow : OpenClaim := { program := "ytjdapjamnnmaoaa", sum := "51de8479d0f888449335b6896e8aebcceab3441dc2b510d1e3347a7c59b9af0c", func := "loop.example/lib-g01188/laws.FnTruncateTwice", spec := "fnTruncateTwice", apart := false, narrowed := true }
def FnTruncateTwiceUptoSaid : Prop := fnTruncateTwiceUptoRow.holds Try.pinned (OpenSpec.upto fnTruncateTwiceSpec)

/-- 'laws.FnCountsOfWhole', WHERE WHAT IT READS IS OF BULK AT MOST 1048576: true; the input reads as it did. -/
def fnCountsOfWholeUptoRow : OpenClaim := { program := "ytjdapjamnnmaoaa", sum := "51de8479d0f888449335b6896e8aebcceab3441dc2b510d1e3347a7c59b9af0c", func := "loop.example/lib-g01188/laws.FnCountsOfWhole", spec := "fnCountsOfWhole", apart := false, narrowed := true }
def FnCountsOfWholeUptoSaid : Prop := fnCountsOfWholeUptoRow.holds Try.pinned (OpenSpec.upto fnCountsOfWholeSpec)

/-- 'laws.FnAbs', WHERE WHAT IT READS IS OF BULK AT MOST 1048576: true; the input reads as it did. -/
def fnAbsUptoRow : OpenClaim := { program := "ytjdapjamnnmaoaa", sum := "51de8479d0f888449335b6896e8aebcceab3441dc2b510d1e3347a7c59b9af0c", func := "loop.example/lib-g01188/laws.FnAbs", spec := "fnAbs", apart := false, narrowed := true }
def FnAbsUptoSaid : Prop := fnAbsUptoRow.holds Try.pinned (OpenSpec.upto fnAbsSpec)

/-- 'laws.FnExactAbs', WHERE WHAT IT READS IS OF BULK AT MOST 1048576: true; the input reads as it did. -/
def fnExactAbsUptoRow : OpenClaim := { program := "ytjdapjamnnmaoaa", sum := "51de8479d0f888449335b6896e8aebcceab3441dc2b510d1e3347a7c59b9af0c", func := "loop.example/lib-g01188/laws.FnExactAbs", spec := "fnExactAbs", apart := false, narrowed := true }
def FnExactAbsUptoSaid : Prop := fnExactAbsUptoRow.holds Try.pinned (OpenSpec.upto fnExactAbsSpec)

/-- 'laws.FnCounts', WHERE WHAT IT READS IS OF BULK AT MOST 1048576: true; the input reads as it did. -/
def fnCountsUptoRow : OpenClaim := { program := "ytjdapjamnnmaoaa", sum := "51de8479d0f888449335b6896e8aebcceab3441dc2b510d1e3347a7c59b9af0c", func := "loop.example/lib-g01188/laws.FnCounts", spec := "fnCounts", apart := false, narrowed := true }
def FnCountsUptoSaid : Prop := fnCountsUptoRow.holds Try.pinned (OpenSpec.upto fnCountsSpec)

/-- 'laws.FnExactRound', WHERE WHAT IT READS IS OF BULK AT MOST 1048576: true; the input reads as it did. -/
def fnExactRoundUptoRow : OpenClaim := { program := "ytjdapjamnnmaoaa", sum := "51de8479d0f888449335b6896e8aebcceab3441dc2b510d1e3347a7c59b9af0c", func := "loop.example/lib-g01188/laws.FnExactRound", spec := "fnExactRound", apart := false, narrowed := true }
def FnExactRoundUptoSaid : Prop := fnExactRoundUptoRow.holds Try.pinned (OpenSpec.upto fnExactRoundSpec)

end Rows
end Go.Proofs.Ytjdapjamnnmaoaa
