/-
  No cell of these rows narrows 'for every input' (looked for: loops, veiled, ifaces, maps, wideKeys, modest, calm, conditions, laid).
  DERIVED. THE GIVEN ROWS OF THIS SEAT. 9 by the template 'for every input the law returns true; each argument reads behind the call as it read before'; 0 by the template 'total and deterministic' (their statements: YtkagbpnmdflhjaaTotals.lean).
  GIVEN WITH THE SEED: the statements are not yours to turn. If you find one false, say at which input.
  Laid BY PROGRAM, IN A SANDBOX (cutbox-rows.mjs): the forced cells as the released guide's own fill.sh prints them over the translation 608e15b274719165… (all of the seat's roots in one cut). By AI agents, Wed Nov 11 2026. No macro, syntax, notation, axiom, sorry.
-/
import Derived.Test.YtkagbpnmdflhjaaChecked
import GoSem.Claim
import GoSem.ClaimJoined
import GoSem.ClaimMapViews
import Derived.JoinedTies
import Derived.KernelRfl
namespace Go.Proofs.Ytkagbpnmdflhjaa
/- THE CELL 'sum', in the pinned program and in every row, IS THE sha256 OF THE DUMP (.gsa) THAT YtkagbpnmdflhjaaProg.lean LOADS. Nothing in Lean hashes anything: it is a label: what it is worth is what the hold of that sum in a sandbox is worth. -/
noncomputable def Try.pinned : Pinned := { name := "ytkagbpnmdflhjaa", sum := "608e15b274719165829e553103f578a4e768cdca598ba7fda3ce1a01ffa976a2", checked := Try.checked }
namespace Rows
def none {H : Type} : Left H := { results := [], args := [] }

/-- 'laws.FnExactString': WHATEVER THE INPUT: true; the input reads as it did. -/
def fnExactStringSpec : ChangeSpec := { name := "fnExactString", fn := fun _ => fun
  | [d] => { results := [.lit (.bool true)], args := [d] }
  | _ => none }
def fnExactStringRow : OpenClaim := { program := "ytkagbpnmdflhjaa", sum := "608e15b274719165829e553103f578a4e768cdca598ba7fda3ce1a01ffa976a2", func := "loop.example/lib-g01188/laws.FnExactString", spec := "fnExactString", recurses := true, apart := false }
def FnExactStringSaid : Prop := fnExactStringRow.holds Try.pinned (OpenSpec.ofChange fnExactStringSpec)

/-- ITS FALSE NEIGHBOUR: 'it returns false'. Refute it at one input. -/
def fnExactStringWrong : ChangeSpec := { name := "fnExactString", fn := fun _ => fun
  | [d] => { results := [.lit (.bool false)], args := [d] }
  | _ => none }
def FnExactStringWrongFalsely : Prop := fnExactStringRow.holds Try.pinned (OpenSpec.ofChange fnExactStringWrong)

/-- 'laws.FnStringFraction': WHATEVER THE INPUT: true; the input reads as it did. -/
def fnStringFractionSpec : ChangeSpec := { name := "fnStringFraction", fn := fun _ => fun
  | [d1, d2] => { results := [.lit (.bool true)], args := [d1, d2] }
  | _ => none }
def fnStringFractionRow : OpenClaim := { program := "ytkagbpnmdflhjaa", sum := "608e15b274719165829e553103f578a4e768cdca598ba7fda3ce1a01ffa976a2", func := "loop.example/lib-g01188/laws.FnStringFraction", spec := "fnStringFraction", recurses := true, apart := false }
def FnStringFractionSaid : Prop := fnStringFractionRow.holds Try.pinned (OpenSpec.ofChange fnStringFractionSpec)

/-- ITS FALSE NEIGHBOUR: 'it returns false'. Refute it at one input. -/
def fnStringFractionWrong : ChangeSpec := { name := "fnStringFraction", fn := fun _ => fun
  | [d1, d2] => { results := [.lit (.bool false)], args := [d1, d2] }
  | _ => none }
def FnStringFractionWrongFalsely : Prop := fnStringFractionRow.holds Try.pinned (OpenSpec.ofChange fnStringFractionWrong)

/-- 'laws.FnStringMirrored': WHATEVER THE INPUT: true; the input reads as it did. -/
def fnStringMirroredSpec : ChangeSpec := { name := "fnStringMirrored", fn := fun _ => fun
  | [d] => { results := [.lit (.bool true)], args := [d] }
  | _ => none }
def fnStringMirroredRow : OpenClaim := { program := "ytkagbpnmdflhjaa", sum := "608e15b274719165829e553103f578a4e768cdca598ba7fda3ce1a01ffa976a2", func := "loop.example/lib-g01188/laws.FnStringMirrored", spec := "fnStringMirrored", apart := false }
def FnStringMirroredSaid : Prop := fnStringMirroredRow.holds Try.pinned (OpenSpec.ofChange fnStringMirroredSpec)

/-- ITS FALSE NEIGHBOUR: 'it returns false'. Refute it at one input. -/
def fnStringMirroredWrong : ChangeSpec := { name := "fnStringMirrored", fn := fun _ => fun
  | [d] => { results := [.lit (.bool false)], args := [d] }
  | _ => none }
def FnStringMirroredWrongFalsely : Prop := fnStringMirroredRow.holds Try.pinned (OpenSpec.ofChange fnStringMirroredWrong)

/-- 'laws.FnStringOfHours': WHATEVER THE INPUT: true; the input reads as it did. -/
def fnStringOfHoursSpec : ChangeSpec := { name := "fnStringOfHours", fn := fun _ => fun
  | [d1, d2, d3] => { results := [.lit (.bool true)], args := [d1, d2, d3] }
  | _ => none }
def fnStringOfHoursRow : OpenClaim := { program := "ytkagbpnmdflhjaa", sum := "608e15b274719165829e553103f578a4e768cdca598ba7fda3ce1a01ffa976a2", func := "loop.example/lib-g01188/laws.FnStringOfHours", spec := "fnStringOfHours", recurses := true, apart := false }
def FnStringOfHoursSaid : Prop := fnStringOfHoursRow.holds Try.pinned (OpenSpec.ofChange fnStringOfHoursSpec)

/-- ITS FALSE NEIGHBOUR: 'it returns false'. Refute it at one input. -/
def fnStringOfHoursWrong : ChangeSpec := { name := "fnStringOfHours", fn := fun _ => fun
  | [d1, d2, d3] => { results := [.lit (.bool false)], args := [d1, d2, d3] }
  | _ => none }
def FnStringOfHoursWrongFalsely : Prop := fnStringOfHoursRow.holds Try.pinned (OpenSpec.ofChange fnStringOfHoursWrong)

/-- 'laws.FnStringOfMinutes': WHATEVER THE INPUT: true; the input reads as it did. -/
def fnStringOfMinutesSpec : ChangeSpec := { name := "fnStringOfMinutes", fn := fun _ => fun
  | [d1, d2] => { results := [.lit (.bool true)], args := [d1, d2] }
  | _ => none }
def fnStringOfMinutesRow : OpenClaim := { program := "ytkagbpnmdflhjaa", sum := "608e15b274719165829e553103f578a4e768cdca598ba7fda3ce1a01ffa976a2", func := "loop.example/lib-g01188/laws.FnStringOfMinutes", spec := "fnStringOfMinutes", recurses := true, apart := false }
def FnStringOfMinutesSaid : Prop := fnStringOfMinutesRow.holds Try.pinned (OpenSpec.ofChange fnStringOfMinutesSpec)

/-- ITS FALSE NEIGHBOUR: 'it returns false'. Refute it at one input. -/
def fnStringOfMinutesWrong : ChangeSpec := { name := "fnStringOfMinutes", fn := fun _ => fun
  | [d1, d2] => { results := [.lit (.bool false)], args := [d1, d2] }
  | _ => none }
def FnStringOfMinutesWrongFalsely : Prop := fnStringOfMinutesRow.holds Try.pinned (OpenSpec.ofChange fnStringOfMinutesWrong)

/-- 'laws.FnStringOfSmall': WHATEVER THE INPUT: true; the input reads as it did. -/
def fnStringOfSmallSpec : ChangeSpec := { name := "fnStringOfSmall", fn := fun _ => fun
  | [d] => { results := [.lit (.bool true)], args := [d] }
  | _ => none }
def fnStringOfSmallRow : OpenClaim := { program := "ytkagbpnmdflhjaa", sum := "608e15b274719165829e553103f578a4e768cdca598ba7fda3ce1a01ffa976a2", func := "loop.example/lib-g01188/laws.FnStringOfSmall", spec := "fnStringOfSmall", recurses := true, apart := false }
def FnStringOfSmallSaid : Prop := fnStringOfSmallRow.holds Try.pinned (OpenSpec.ofChange fnStringOfSmallSpec)

/-- ITS FALSE NEIGHBOUR: 'it returns false'. Refute it at one input. -/
def fnStringOfSmallWrong : ChangeSpec := { name := "fnStringOfSmall", fn := fun _ => fun
  | [d] => { results := [.lit (.bool false)], args := [d] }
  | _ => none }
def FnStringOfSmallWrongFalsely : Prop := fnStringOfSmallRow.holds Try.pinned (OpenSpec.ofChange fnStringOfSmallWrong)

/-- 'laws.FnStringShape': WHATEVER THE INPUT: true; the input reads as it did. -/
def fnStringShapeSpec : ChangeSpec := { name := "fnStringShape", fn := fun _ => fun
  | [d] => { results := [.lit (.bool true)], args := [d] }
  | _ => none }
def fnStringShapeRow : OpenClaim := { program := "ytkagbpnmdflhjaa", sum := "608e15b274719165829e553103f578a4e768cdca598ba7fda3ce1a01ffa976a2", func := "loop.example/lib-g01188/laws.FnStringShape", spec := "fnStringShape", apart := false }
def FnStringShapeSaid : Prop := fnStringShapeRow.holds Try.pinned (OpenSpec.ofChange fnStringShapeSpec)

/-- ITS FALSE NEIGHBOUR: 'it returns false'. Refute it at one input. -/
def fnStringShapeWrong : ChangeSpec := { name := "fnStringShape", fn := fun _ => fun
  | [d] => { results := [.lit (.bool false)], args := [d] }
  | _ => none }
def FnStringShapeWrongFalsely : Prop := fnStringShapeRow.holds Try.pinned (OpenSpec.ofChange fnStringShapeWrong)

/-- 'laws.FnStringsDiffer': WHATEVER THE INPUT: true; the input reads as it did. -/
def fnStringsDifferSpec : ChangeSpec := { name := "fnStringsDiffer", fn := fun _ => fun
  | [d1, d2] => { results := [.lit (.bool true)], args := [d1, d2] }
  | _ => none }
def fnStringsDifferRow : OpenClaim := { program := "ytkagbpnmdflhjaa", sum := "608e15b274719165829e553103f578a4e768cdca598ba7fda3ce1a01ffa976a2", func := "loop.example/lib-g01188/laws.FnStringsDiffer", spec := "fnStringsDiffer", apart := false }
def FnStringsDifferSaid : Prop := fnStringsDifferRow.holds Try.pinned (OpenSpec.ofChange fnStringsDifferSpec)

/-- ITS FALSE NEIGHBOUR: 'it returns false'. Refute it at one input. -/
def fnStringsDifferWrong : ChangeSpec := { name := "fnStringsDiffer", fn := fun _ => fun
  | [d1, d2] => { results := [.lit (.bool false)], args := [d1, d2] }
  | _ => none }
def FnStringsDifferWrongFalsely : Prop := fnStringsDifferRow.holds Try.pinned (OpenSpec.ofChange fnStringsDifferWrong)

/-- 'laws.FnAbsOfText': WHATEVER THE INPUT: true; the input reads as it did. -/
def fnAbsOfTextSpec : ChangeSpec := { name := "fnAbsOfText", fn := fun _ => fun
  | [d] => { results := [.lit (.bool true)], args := [d] }
  | _ => none }
def fnAbsOfTextRow : OpenClaim := { program := "ytkagbpnmdflhjaa", sum := "608e15b274719165829e553103f578a4e768cdca598ba7fda3ce1a01ffa976a2", func := "loop.example/lib-g01188/laws.FnAbsOfText", spec := "fnAbsOfText", apart := false }
def FnAbsOfTextSaid : Prop := fnAbsOfTextRow.holds Try.pinned (OpenSpec.ofChange fnAbsOfTextSpec)

/-- ITS FALSE NEIGHBOUR: 'it returns false'. Refute it at one input. -/
def fnAbsOfTextWrong : ChangeSpec := { name := "fnAbsOfText", fn := fun _ => fun
  | [d] => { results := [.lit (.bool false)], args := [d] }
  | _ => none }
def FnAbsOfTextWrongFalsely : Prop := fnAbsOfTextRow.holds Try.pinned (OpenSpec.ofChange fnAbsOfTextWrong)

/- THE SECOND FORM. 'bulk': how many values and letters a reading holds, each counted each time it is reached (what is shared counts as often as it is met; a slice's spare places count too). A statement '..UptoSaid' is the law's where the arguments, and the package variables that the reading takes, are together of bulk at most 1048576: NARROWER than '..Said'. Prove '..Said' where nothing that the law and all that it calls make is longer than what came in: it says more and counts as full. Else prove '..UptoSaid'. A law counts once. -/
mutual
def uptoBulk {H : Type} : DataW H → Nat
  | .lit (.string bytes) => bytes.length + 1
  | .lit _ => 1
  | .nil => 1
  | .ptr d => uptoBulk d + 1
  | .slice elems spare => uptoBulkAll elems + uptoBulkAll spare + 1
  | .agg parts => uptoBulkAll parts + 1
  | .iface _ d => uptoBulk d + 1
  | .map entries => uptoBulkEntries entries + 1
  | .held _ => 1
def uptoBulkAll {H : Type} : List (DataW H) → Nat
  | [] => 0
  | d :: r => uptoBulk d + uptoBulkAll r
def uptoBulkEntries {H : Type} : List (Lit × DataW H) → Nat
  | [] => 0
  | x :: r => uptoBulkEntry x + uptoBulkEntries r
def uptoBulkEntry {H : Type} : Lit × DataW H → Nat
  | (.string bytes, d) => bytes.length + uptoBulk d + 1
  | (_, d) => uptoBulk d + 1
 end
def uptoSmall : (H : Type) → List (DataW H) → Bool := fun _ ds => decide (uptoBulkAll ds ≤ 1048576)
def OpenSpec.upto (s : _root_.Go.ChangeSpec) : _root_.Go.OpenSpec := { _root_.Go.OpenSpec.ofChange s with cond := some uptoSmall }

/-- 'laws.FnExactString', WHERE WHAT IT READS IS OF BULK AT MOST 1048576: true; the input reads as it did. -/
def fnExactStringUptoRow : OpenClaim := { program := "ytkagbpnmdflhjaa", sum := "608e15b274719165829e553103f578a4e768cdca598ba7fda3ce1a01ffa976a2", func := "loop.example/lib-g01188/laws.FnExactString", spec := "fnExactString", recurses := true, apart := false, narrowed := true }
def FnExactStringUptoSaid : Prop := fnExactStringUptoRow.holds Try.pinned (OpenSpec.upto fnExactStringSpec)

/-- 'laws.FnStringFraction', WHERE WHAT IT READS IS OF BULK AT MOST 1048576: true; the input reads as it did. -/
def fnStringFractionUptoRow : OpenClaim := { program := "ytkagbpnmdflhjaa", sum := "608e15b274719165829e553103f578a4e768cdca598ba7fda3ce1a01ffa976a2", func := "loop.example/lib-g01188/laws.FnStringFraction", spec := "fnStringFraction", recurses := true, apart := false, narrowed := true }
def FnStringFractionUptoSaid : Prop := fnStringFractionUptoRow.holds Try.pinned (OpenSpec.upto fnStringFractionSpec)

/-- 'laws.FnStringMirrored', WHERE WHAT IT READS IS OF BULK AT MOST 1048576: true; the input reads as it did. -/
def fnStringMirroredUptoRow : OpenClaim := { program := "ytkagbpnmdflhjaa", sum := "608e15b274719165829e553103f578a4e768cdca598ba7fda3ce1a01ffa976a2", func := "loop.example/lib-g01188/laws.FnStringMirrored", spec := "fnStringMirrored", apart := false, narrowed := true }
def FnStringMirroredUptoSaid : Prop := fnStringMirroredUptoRow.holds Try.pinned (OpenSpec.upto fnStringMirroredSpec)

/-- 'laws.FnStringOfHours', WHERE WHAT IT READS IS OF BULK AT MOST 1048576: true; the input reads as it did. -/
def fnStringOfHoursUptoRow : OpenClaim := { program := "ytkagbpnmdflhjaa", sum := "608e15b274719165829e553103f578a4e768cdca598ba7fda3ce1a01ffa976a2", func := "loop.example/lib-g01188/laws.FnStringOfHours", spec := "fnStringOfHours", recurses := true, apart := false, narrowed := true }
def FnStringOfHoursUptoSaid : Prop := fnStringOfHoursUptoRow.holds Try.pinned (OpenSpec.upto fnStringOfHoursSpec)

/-- 'laws.FnStringOfMinutes', WHERE WHAT IT READS IS OF BULK AT MOST 1048576: true; the input reads as it did. -/
def fnStringOfMinutesUptoRow : OpenClaim := { program := "ytkagbpnmdflhjaa", sum := "608e15b274719165829e553103f578a4e768cdca598ba7fda3ce1a01ffa976a2", func := "loop.example/lib-g01188/laws.FnStringOfMinutes", spec := "fnStringOfMinutes", recurses := true, apart := false, narrowed := true }
def FnStringOfMinutesUptoSaid : Prop := fnStringOfMinutesUptoRow.holds Try.pinned (OpenSpec.upto fnStringOfMinutesSpec)

/-- 'laws.FnStringOfSmall', WHERE WHAT IT READS IS OF BULK AT MOST 1048576: true; the input reads as it did. -/
def fnStringOfSmallUptoRow : OpenClaim := { program := "ytkagbpnmdflhjaa", sum := "608e15b274719165829e553103f578a4e768cdca598ba7fda3ce1a01ffa976a2", func := "loop.example/lib-g01188/laws.FnStringOfSmall", spec := "fnStringOfSmall", recurses := true, apart := false, narrowed := true }
def FnStringOfSmallUptoSaid : Prop := fnStringOfSmallUptoRow.holds Try.pinned (OpenSpec.upto fnStringOfSmallSpec)

/-- 'laws.FnStringShape', WHERE WHAT IT READS IS OF BULK AT MOST 1048576: true; the input reads as it did. -/
def fnStringShapeUptoRow : OpenClaim := { program := "ytkagbpnmdflhjaa", sum := "608e15b274719165829e553103f578a4e768cdca598ba7fda3ce1a01ffa976a2", func := "loop.example/lib-g01188/laws.FnStringShape", spec := "fnStringShape", apart := false, narrowed := true }
def FnStringShapeUptoSaid : Prop := fnStringShapeUptoRow.holds Try.pinned (OpenSpec.upto fnStringShapeSpec)

/-- 'laws.FnStringsDiffer', WHERE WHAT IT READS IS OF BULK AT MOST 1048576: true; the input reads as it did. -/
def fnStringsDifferUptoRow : OpenClaim := { program := "ytkagbpnmdflhjaa", sum := "608e15b274719165829e553103f578a4e768cdca598ba7fda3ce1a01ffa976a2", func := "loop.example/lib-g01188/laws.FnStringsDiffer", spec := "fnStringsDiffer", apart := false, narrowed := true }
def FnStringsDifferUptoSaid : Prop := fnStringsDifferUptoRow.holds Try.pinned (OpenSpec.upto fnStringsDifferSpec)

/-- 'laws.FnAbsOfText', WHERE WHAT IT READS IS OF BULK AT MOST 1048576: true; the input reads as it did. -/
def fnAbsOfTextUptoRow : OpenClaim := { program := "ytkagbpnmdflhjaa", sum := "608e15b274719165829e553103f578a4e768cdca598ba7fda3ce1a01ffa976a2", func := "loop.example/lib-g01188/laws.FnAbsOfText", spec := "fnAbsOfText", apart := false, narrowed := true }
def FnAbsOfTextUptoSaid : Prop := fnAbsOfTextUptoRow.holds Try.pinned (OpenSpec.upto fnAbsOfTextSpec)

end Rows
end Go.Proofs.Ytkagbpnmdflhjaa
