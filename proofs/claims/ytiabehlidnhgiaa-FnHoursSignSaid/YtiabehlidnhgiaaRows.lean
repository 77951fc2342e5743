/-
  No cell of these rows narrows 'for every input' (looked for: loops, veiled, ifaces, maps, wideKeys, modest, calm, conditions, laid).
  DERIVED. THE GIVEN ROWS OF THIS SEAT. 7 by the template 'for every input the law returns true; each argument reads behind the call as it read before'; 0 by the template 'total and deterministic' (their statements: YtiabehlidnhgiaaTotals.lean).
  GIVEN WITH THE SEED: the statements are not yours to turn. If you find one false, say at which input.
  Laid BY PROGRAM, IN A SANDBOX (cutbox-rows.mjs): the forced cells as the released guide's own fill.sh prints them over the translation 0edf277504d80021… (all of the seat's roots in one cut). By AI agents, Wed Nov 11 2026. No macro, syntax, notation, axiom, sorry.
-/
import Derived.Test.YtiabehlidnhgiaaChecked
import GoSem.Claim
import GoSem.ClaimJoined
import GoSem.ClaimMapViews
import Derived.JoinedTies
import Derived.KernelRfl
namespace Go.Proofs.Ytiabehlidnhgiaa
/- THE CELL 'sum', in the pinned program and in every row, IS THE sha256 OF THE DUMP (.gsa) THAT YtiabehlidnhgiaaProg.lean LOADS. Nothing in Lean hashes anything: it is a label: what it is worth is what the hold of that sum in a sandbox is worth. -/
noncomputable def Try.pinned : Pinned := { name := "ytiabehlidnhgiaa", sum := "0edf277504d80021a1745d56f9822802dde56e865de39204821c9b4e08b67c23", checked := Try.checked }
namespace Rows
def none {H : Type} : Left H := { results := [], args := [] }

/-- 'laws.FnExactHours': WHATEVER THE INPUT: true; the input reads as it did. -/
def fnExactHoursSpec : ChangeSpec := { name := "fnExactHours", fn := fun _ => fun
  | [d] => { results := [.lit (.bool true)], args := [d] }
  | _ => none }
def fnExactHoursRow : OpenClaim := { program := "ytiabehlidnhgiaa", sum := "0edf277504d80021a1745d56f9822802dde56e865de39204821c9b4e08b67c23", func := "loop.example/lib-g01188/laws.FnExactHours", spec := "fnExactHours", apart := false }
def FnExactHoursSaid : Prop := fnExactHoursRow.holds Try.pinned (OpenSpec.ofChange fnExactHoursSpec)

/-- ITS FALSE NEIGHBOUR: 'it returns false'. Refute it at one input. -/
def fnExactHoursWrong : ChangeSpec := { name := "fnExactHours", fn := fun _ => fun
  | [d] => { results := [.lit (.bool false)], args := [d] }
  | _ => none }
def FnExactHoursWrongFalsely : Prop := fnExactHoursRow.holds Try.pinned (OpenSpec.ofChange fnExactHoursWrong)

/-- 'laws.FnExactMinutes': WHATEVER THE INPUT: true; the input reads as it did. -/
def fnExactMinutesSpec : ChangeSpec := { name := "fnExactMinutes", fn := fun _ => fun
  | [d] => { results := [.lit (.bool true)], args := [d] }
  | _ => none }
def fnExactMinutesRow : OpenClaim := { program := "ytiabehlidnhgiaa", sum := "0edf277504d80021a1745d56f9822802dde56e865de39204821c9b4e08b67c23", func := "loop.example/lib-g01188/laws.FnExactMinutes", spec := "fnExactMinutes", apart := false }
def FnExactMinutesSaid : Prop := fnExactMinutesRow.holds Try.pinned (OpenSpec.ofChange fnExactMinutesSpec)

/-- ITS FALSE NEIGHBOUR: 'it returns false'. Refute it at one input. -/
def fnExactMinutesWrong : ChangeSpec := { name := "fnExactMinutes", fn := fun _ => fun
  | [d] => { results := [.lit (.bool false)], args := [d] }
  | _ => none }
def FnExactMinutesWrongFalsely : Prop := fnExactMinutesRow.holds Try.pinned (OpenSpec.ofChange fnExactMinutesWrong)

/-- 'laws.FnExactSeconds': WHATEVER THE INPUT: true; the input reads as it did. -/
def fnExactSecondsSpec : ChangeSpec := { name := "fnExactSeconds", fn := fun _ => fun
  | [d] => { results := [.lit (.bool true)], args := [d] }
  | _ => none }
def fnExactSecondsRow : OpenClaim := { program := "ytiabehlidnhgiaa", sum := "0edf277504d80021a1745d56f9822802dde56e865de39204821c9b4e08b67c23", func := "loop.example/lib-g01188/laws.FnExactSeconds", spec := "fnExactSeconds", apart := false }
def FnExactSecondsSaid : Prop := fnExactSecondsRow.holds Try.pinned (OpenSpec.ofChange fnExactSecondsSpec)

/-- ITS FALSE NEIGHBOUR: 'it returns false'. Refute it at one input. -/
def fnExactSecondsWrong : ChangeSpec := { name := "fnExactSeconds", fn := fun _ => fun
  | [d] => { results := [.lit (.bool false)], args := [d] }
  | _ => none }
def FnExactSecondsWrongFalsely : Prop := fnExactSecondsRow.holds Try.pinned (OpenSpec.ofChange fnExactSecondsWrong)

/-- 'laws.FnHoursMirrored': WHATEVER THE INPUT: true; the input reads as it did. -/
def fnHoursMirroredSpec : ChangeSpec := { name := "fnHoursMirrored", fn := fun _ => fun
  | [d] => { results := [.lit (.bool true)], args := [d] }
  | _ => none }
def fnHoursMirroredRow : OpenClaim := { program := "ytiabehlidnhgiaa", sum := "0edf277504d80021a1745d56f9822802dde56e865de39204821c9b4e08b67c23", func := "loop.example/lib-g01188/laws.FnHoursMirrored", spec := "fnHoursMirrored", apart := false }
def FnHoursMirroredSaid : Prop := fnHoursMirroredRow.holds Try.pinned (OpenSpec.ofChange fnHoursMirroredSpec)

/-- ITS FALSE NEIGHBOUR: 'it returns false'. Refute it at one input. -/
def fnHoursMirroredWrong : ChangeSpec := { name := "fnHoursMirrored", fn := fun _ => fun
  | [d] => { results := [.lit (.bool false)], args := [d] }
  | _ => none }
def FnHoursMirroredWrongFalsely : Prop := fnHoursMirroredRow.holds Try.pinned (OpenSpec.ofChange fnHoursMirroredWrong)

/-- 'laws.FnHoursMonotone': WHATEVER THE INPUT: true; the input reads as it did. -/
def fnHoursMonotoneSpec : ChangeSpec := { name := "fnHoursMonotone", fn := fun _ => fun
  | [d1, d2] => { results := [.lit (.bool true)], args := [d1, d2] }
  | _ => none }
def fnHoursMonotoneRow : OpenClaim := { program := "ytiabehlidnhgiaa", sum := "0edf277504d80021a1745d56f9822802dde56e865de39204821c9b4e08b67c23", func := "loop.example/lib-g01188/laws.FnHoursMonotone", spec := "fnHoursMonotone", apart := false }
def FnHoursMonotoneSaid : Prop := fnHoursMonotoneRow.holds Try.pinned (OpenSpec.ofChange fnHoursMonotoneSpec)

/-- ITS FALSE NEIGHBOUR: 'it returns false'. Refute it at one input. -/
def fnHoursMonotoneWrong : ChangeSpec := { name := "fnHoursMonotone", fn := fun _ => fun
  | [d1, d2] => { results := [.lit (.bool false)], args := [d1, d2] }
  | _ => none }
def FnHoursMonotoneWrongFalsely : Prop := fnHoursMonotoneRow.holds Try.pinned (OpenSpec.ofChange fnHoursMonotoneWrong)

/-- 'laws.FnHoursOfWhole': WHATEVER THE INPUT: true; the input reads as it did. -/
def fnHoursOfWholeSpec : ChangeSpec := { name := "fnHoursOfWhole", fn := fun _ => fun
  | [d] => { results := [.lit (.bool true)], args := [d] }
  | _ => none }
def fnHoursOfWholeRow : OpenClaim := { program := "ytiabehlidnhgiaa", sum := "0edf277504d80021a1745d56f9822802dde56e865de39204821c9b4e08b67c23", func := "loop.example/lib-g01188/laws.FnHoursOfWhole", spec := "fnHoursOfWhole", apart := false }
def FnHoursOfWholeSaid : Prop := fnHoursOfWholeRow.holds Try.pinned (OpenSpec.ofChange fnHoursOfWholeSpec)

/-- ITS FALSE NEIGHBOUR: 'it returns false'. Refute it at one input. -/
def fnHoursOfWholeWrong : ChangeSpec := { name := "fnHoursOfWhole", fn := fun _ => fun
  | [d] => { results := [.lit (.bool false)], args := [d] }
  | _ => none }
def FnHoursOfWholeWrongFalsely : Prop := fnHoursOfWholeRow.holds Try.pinned (OpenSpec.ofChange fnHoursOfWholeWrong)

/-- 'laws.FnHoursSign': WHATEVER THE INPUT: true; the input reads as it did. -/
def fnHoursSignSpec : ChangeSpec := { name := "fnHoursSign", fn := fun _ => fun
  | [d] => { results := [.lit (.bool true)], args := [d] }
  | _ => none }
def fnHoursSignRow : OpenClaim := { program := "ytiabehlidnhgiaa", sum := "0edf277504d80021a1745d56f9822802dde56e865de39204821c9b4e08b67c23", func := "loop.example/lib-g01188/laws.FnHoursSign", spec := "fnHoursSign", apart := false }
def FnHoursSignSaid : Prop := fnHoursSignRow.holds Try.pinned (OpenSpec.ofChange fnHoursSignSpec)

/-- ITS FALSE NEIGHBOUR: 'it returns false'. Refute it at one input. -/
def fnHoursSignWrong : ChangeSpec := { name := "fnHoursSign", fn := fun _ => fun
  | [d] => { results := [.lit (.bool false)], args := [d] }
  | _ => none }
def FnHoursSignWrongFalsely : Prop := fnHoursSignRow.holds Try.pinned (OpenSpec.ofChange fnHoursSignWrong)

/- THE SECOND FORM. 'bulk': how many values and letters a reading holds, each counted each time it is reached (what is shared counts as often as it is met; a slice's spare places count too). A statement '..UptoSaid' is the law's where the arguments, and the package variables that the reading takes, are together of bulk at most 1048576: NARROWER than '..Said'. Prove '..Said' where nothing that the law and all that it calls make is longer than what came in: it says more and counts as full. Else prove '..UptoSaid'. A law counts once. -/
mutual
def uptoBulk {H : Type} : DataW H → Nat
  | .lit (.string bytes) => bytes.length + 1
  | .lit _ => 1
  | .nil => 1
  | .ptr d => uptoBulk d + 1
  | .slice elems spare => uptoBulkAll elems + uptoBulkAll spare + 1
  | .agg parts => uptoBulkAll parts + 1
  | .iface _ d => uptoBulk d + 1
  | .map entries => uptoBulkEntries entries + 1
  | .held _ => 1
def uptoBulkAll {H : Type} : List (DataW H) → Nat
  | [] => 0
  | d :: r => uptoBulk d + uptoBulkAll r
def uptoBulkEntries {H : Type} : List (Lit × DataW H) → Nat
  | [] => 0
  | x :: r => uptoBulkEntry x + uptoBulkEntries r
def uptoBulkEntry {H : Type} : Lit × DataW H → Nat
  | (.string bytes, d) => bytes.length + uptoBulk d + 1
  | (_, d) => uptoBulk d + 1
 end
def uptoSmall : (H : Type) → List (DataW H) → Bool := fun _ ds => decide (uptoBulkAll ds ≤ 1048576)
def OpenSpec.upto (s : _root_.Go.ChangeSpec) : _root_.Go.OpenSpec := { _root_.Go.OpenSpec.ofChange s with cond := some uptoSmall }

/-- 'laws.FnExactHours', WHERE WHAT IT READS IS OF BULK AT MOST 1048576: true; the input reads as it did. -/
def fnExactHoursUptoRow : OpenClaim := { program := "ytiabehlidnhgiaa", sum := "0edf277504d80021a1745d56f9822802dde56e865de39204821c9b4e08b67c23", func := "loop.example/lib-g01188/laws.FnExactHours", spec := "fnExactHours", apart := false, narrowed := true }
def FnExactHoursUptoSaid : Prop := fnExactHoursUptoRow.holds Try.pinned (OpenSpec.upto fnExactHoursSpec)

/-- 'laws.FnExactMinutes', WHERE WHAT IT READS IS OF BULK AT MOST 1048576: true; the input reads as it did. -/
def fnExactMinutesUptoRow : OpenClaim := { program := "ytiabehlidnhgiaa", sum := "0edf277504d80021a1745d56f9822802dde56e865de39204821c9b4e08b67c23", func := "loop.example/lib-g01188/laws.FnExactMinutes", spec := "fnExactMinutes", apart := false, narrowed := true }
def FnExactMinutesUptoSaid : Prop := fnExactMinutesUptoRow.holds Try.pinned (OpenSpec.upto fnExactMinutesSpec)

/-- 'laws.FnExactSeconds', WHERE WHAT IT READS IS OF BULK AT MOST 1048576: true; the input reads as it did. -/
def fnExactSecondsUptoRow : OpenClaim := { program := "ytiabehlidnhgiaa", sum := "0edf277504d80021a1745d56f9822802dde56e865de39204821c9b4e08b67c23", func := "loop.example/lib-g01188/laws.FnExactSeconds", spec := "fnExactSeconds", apart := false, narrowed := true }
def FnExactSecondsUptoSaid : Prop := fnExactSecondsUptoRow.holds Try.pinned (OpenSpec.upto fnExactSecondsSpec)

/-- 'laws.FnHoursMirrored', WHERE WHAT IT READS IS OF BULK AT MOST 1048576: true; the input reads as it did. -/
def fnHoursMirroredUptoRow : OpenClaim := { program := "ytiabehlidnhgiaa", sum := "0edf277504d80021a1745d56f9822802dde56e865de39204821c9b4e08b67c23", func := "loop.example/lib-g01188/laws.FnHoursMirrored", spec := "fnHoursMirrored", apart := false, narrowed := true }
def FnHoursMirroredUptoSaid : Prop := fnHoursMirroredUptoRow.holds Try.pinned (OpenSpec.upto fnHoursMirroredSpec)

/-- 'laws.FnHoursMonotone', WHERE WHAT IT READS IS OF BULK AT MOST 1048576: true; the input reads as it did. -/
def fnHoursMonotoneUptoRow : OpenClaim := { program := "ytiabehlidnhgiaa", sum := "0edf277504d80021a1745d56f9822802dde56e865de39204821c9b4e08b67c23", func := "loop.example/lib-g01188/laws.FnHoursMonotone", spec := "fnHoursMonotone", apart := false, narrowed := true }
def FnHoursMonotoneUptoSaid : Prop := fnHoursMonotoneUptoRow.holds Try.pinned (OpenSpec.upto fnHoursMonotoneSpec)

/-- 'laws.FnHoursOfWhole', WHERE WHAT IT READS IS OF BULK AT MOST 1048576: true; the input reads as it did. -/
def fnHoursOfWholeUptoRow : OpenClaim := { program := "ytiabehlidnhgiaa", sum := "0edf277504d80021a1745d56f9822802dde56e865de39204821c9b4e08b67c23", func := "loop.example/lib-g01188/laws.FnHoursOfWhole", spec := "fnHoursOfWhole", apart := false, narrowed := true }
def FnHoursOfWholeUptoSaid : Prop := fnHoursOfWholeUptoRow.holds Try.pinned (OpenSpec.upto fnHoursOfWholeSpec)

/-- 'laws.FnHoursSign', WHERE WHAT IT READS IS OF BULK AT MOST 1048576: true; the input reads as it did. -/
def fnHoursSignUptoRow : OpenClaim := { program := "ytiabehlidnhgiaa", sum := "0edf277504d80021a1745d56f9822802dde56e865de39204821c9b4e08b67c23", func := "loop.example/lib-g01188/laws.FnHoursSign", spec := "fnHoursSign", apart := false, narrowed := true }
def FnHoursSignUptoSaid : Prop := fnHoursSignUptoRow.holds Try.pinned (OpenSpec.upto fnHoursSignSpec)

end Rows
end Go.Proofs.Ytiabehlidnhgiaa
