/-
  NARROWER THAN 'FOR EVERY INPUT', by the rows' own cells (each row's printed sentence says how): FnParseString: laid · FnStringOfParse: laid · FnSecondsOfText: laid · FnParse: laid · FnParseFraction: laid · FnParseMicros: laid · FnParsePoints: laid · FnParseSums: laid · FnParseUnits: laid · FnParseUnknown: laid · FnParseZeros: laid · FnParseJoined: laid · FnParseNeedsUnit: laid · FnParseSigned: laid.
  DERIVED. THE GIVEN ROWS OF THIS SEAT. 14 by the template 'for every input the law returns true; each argument reads behind the call as it read before'; 0 by the template 'total and deterministic' (their statements: YteejjhdfebhagaaDoorTotals.lean).
  GIVEN WITH THE SEED: the statements are not yours to turn. If you find one false, say at which input.
  Laid BY PROGRAM, IN A SANDBOX (cutbox-rows.mjs): the forced cells as the released guide's own fill.sh prints them over the translation c4ab5d015d0c1ca5… (all of the seat's roots in one cut). By AI agents, Wed Nov 11 2026. No macro, syntax, notation, axiom, sorry.
-/
import Derived.Test.YteejjhdfebhagaaDoorChecked
import GoSem.Claim
import GoSem.ClaimJoined
import GoSem.ClaimMapViews
import Derived.JoinedTies
import Derived.KernelRfl
namespace Go.Proofs.YteejjhdfebhagaaDoor
/- THE CELL 'sum', in the pinned program and in every row, IS THE sha256 OF THE DUMP (.gsa) THAT YteejjhdfebhagaaDoorProg.lean LOADS. Nothing in Lean hashes anything: it is a label: what it is worth is what the hold of that sum in a sandbox is worth. -/
noncomputable def Tryd.pinned : Pinned := { name := "yteejjhdfebhagaadoor", sum := "c4ab5d015d0c1ca5e98e9587c75fbd2d702501f9759ca89926a8e346ab6a5aff", checked := Tryd.checked }
namespace Rows
def none {H : Type} : Left H := { results := [], args := [] }

/- WHAT THE LISTED PACKAGE-LEVEL VARIABLES READ AS WHEN THE CALL BEGINS. Each datum BY PROGRAM (the guide's laid-datum.mjs) off the statement by which the dump's own 'gosem.cut.vars' lays the variable. In a bare row this is a premise. The card (YteejjhdfebhagaaDoorCards.lean) ties it to the program's text. -/
def laid_time_errLeadingInt {H : Type} : DataW H := .iface "*errors.errorString" (.ptr (.agg [.lit (.string [116, 105, 109, 101, 58, 32, 98, 97, 100, 32, 91, 48, 45, 57, 93, 42])]))
def laid_time_unitMap {H : Type} : DataW H := .map [(.string [104], .lit (.int .u64 3600000000000)), (.string [109], .lit (.int .u64 60000000000)), (.string [109, 115], .lit (.int .u64 1000000)), (.string [110, 115], .lit (.int .u64 1)), (.string [115], .lit (.int .u64 1000000000)), (.string [117, 115], .lit (.int .u64 1000)), (.string [194, 181, 115], .lit (.int .u64 1000)), (.string [206, 188, 115], .lit (.int .u64 1000))]

/-- 'laws.FnParseString': WHATEVER THE INPUT: true; the input reads as it did. -/
def fnParseStringSpec : ChangeSpec := { name := "fnParseString", fn := fun _ => fun
  | [d] => { results := [.lit (.bool true)], args := [d] }
  | _ => none }
def fnParseStringRow : OpenClaim := { program := "yteejjhdfebhagaadoor", sum := "c4ab5d015d0c1ca5e98e9587c75fbd2d702501f9759ca89926a8e346ab6a5aff", func := "loop.example/lib-g01188/laws.FnParseString", spec := "fnParseString", named := ["time.unitMap", "time.errLeadingInt"], apart := false, laid := [("time.errLeadingInt", laid_time_errLeadingInt), ("time.unitMap", laid_time_unitMap)] }
def FnParseStringSaid : Prop := fnParseStringRow.holds Tryd.pinned (OpenSpec.ofChange fnParseStringSpec)

/-- ITS FALSE NEIGHBOUR: 'it returns false'. Refute it at one input. -/
def fnParseStringWrong : ChangeSpec := { name := "fnParseString", fn := fun _ => fun
  | [d] => { results := [.lit (.bool false)], args := [d] }
  | _ => none }
def FnParseStringWrongFalsely : Prop := fnParseStringRow.holds Tryd.pinned (OpenSpec.ofChange fnParseStringWrong)

/-- 'laws.FnStringOfParse': WHATEVER THE INPUT: true; the input reads as it did. -/
def fnStringOfParseSpec : ChangeSpec := { name := "fnStringOfParse", fn := fun _ => fun
  | [d] => { results := [.lit (.bool true)], args := [d] }
  | _ => none }
def fnStringOfParseRow : OpenClaim := { program := "yteejjhdfebhagaadoor", sum := "c4ab5d015d0c1ca5e98e9587c75fbd2d702501f9759ca89926a8e346ab6a5aff", func := "loop.example/lib-g01188/laws.FnStringOfParse", spec := "fnStringOfParse", named := ["time.unitMap", "time.errLeadingInt"], apart := false, laid := [("time.errLeadingInt", laid_time_errLeadingInt), ("time.unitMap", laid_time_unitMap)] }
def FnStringOfParseSaid : Prop := fnStringOfParseRow.holds Tryd.pinned (OpenSpec.ofChange fnStringOfParseSpec)

/-- ITS FALSE NEIGHBOUR: 'it returns false'. Refute it at one input. -/
def fnStringOfParseWrong : ChangeSpec := { name := "fnStringOfParse", fn := fun _ => fun
  | [d] => { results := [.lit (.bool false)], args := [d] }
  | _ => none }
def FnStringOfParseWrongFalsely : Prop := fnStringOfParseRow.holds Tryd.pinned (OpenSpec.ofChange fnStringOfParseWrong)

/-- 'laws.FnSecondsOfText': WHATEVER THE INPUT: true; the input reads as it did. -/
def fnSecondsOfTextSpec : ChangeSpec := { name := "fnSecondsOfText", fn := fun _ => fun
  | [d] => { results := [.lit (.bool true)], args := [d] }
  | _ => none }
def fnSecondsOfTextRow : OpenClaim := { program := "yteejjhdfebhagaadoor", sum := "c4ab5d015d0c1ca5e98e9587c75fbd2d702501f9759ca89926a8e346ab6a5aff", func := "loop.example/lib-g01188/laws.FnSecondsOfText", spec := "fnSecondsOfText", recurses := true, named := ["time.unitMap", "time.errLeadingInt"], apart := false, laid := [("time.errLeadingInt", laid_time_errLeadingInt), ("time.unitMap", laid_time_unitMap)] }
def FnSecondsOfTextSaid : Prop := fnSecondsOfTextRow.holds Tryd.pinned (OpenSpec.ofChange fnSecondsOfTextSpec)

/-- ITS FALSE NEIGHBOUR: 'it returns false'. Refute it at one input. -/
def fnSecondsOfTextWrong : ChangeSpec := { name := "fnSecondsOfText", fn := fun _ => fun
  | [d] => { results := [.lit (.bool false)], args := [d] }
  | _ => none }
def FnSecondsOfTextWrongFalsely : Prop := fnSecondsOfTextRow.holds Tryd.pinned (OpenSpec.ofChange fnSecondsOfTextWrong)

/-- 'laws.FnParse': WHATEVER THE INPUT: true; the input reads as it did. -/
def fnParseSpec : ChangeSpec := { name := "fnParse", fn := fun _ => fun
  | [d] => { results := [.lit (.bool true)], args := [d] }
  | _ => none }
def fnParseRow : OpenClaim := { program := "yteejjhdfebhagaadoor", sum := "c4ab5d015d0c1ca5e98e9587c75fbd2d702501f9759ca89926a8e346ab6a5aff", func := "loop.example/lib-g01188/laws.FnParse", spec := "fnParse", named := ["time.unitMap", "time.errLeadingInt"], apart := false, laid := [("time.errLeadingInt", laid_time_errLeadingInt), ("time.unitMap", laid_time_unitMap)] }
def FnParseSaid : Prop := fnParseRow.holds Tryd.pinned (OpenSpec.ofChange fnParseSpec)

/-- ITS FALSE NEIGHBOUR: 'it returns false'. Refute it at one input. -/
def fnParseWrong : ChangeSpec := { name := "fnParse", fn := fun _ => fun
  | [d] => { results := [.lit (.bool false)], args := [d] }
  | _ => none }
def FnParseWrongFalsely : Prop := fnParseRow.holds Tryd.pinned (OpenSpec.ofChange fnParseWrong)

/-- 'laws.FnParseFraction': WHATEVER THE INPUT: true; the input reads as it did. -/
def fnParseFractionSpec : ChangeSpec := { name := "fnParseFraction", fn := fun _ => fun
  | [d1, d2, d3, d4] => { results := [.lit (.bool true)], args := [d1, d2, d3, d4] }
  | _ => none }
def fnParseFractionRow : OpenClaim := { program := "yteejjhdfebhagaadoor", sum := "c4ab5d015d0c1ca5e98e9587c75fbd2d702501f9759ca89926a8e346ab6a5aff", func := "loop.example/lib-g01188/laws.FnParseFraction", spec := "fnParseFraction", recurses := true, named := ["time.unitMap", "time.errLeadingInt"], apart := false, laid := [("time.errLeadingInt", laid_time_errLeadingInt), ("time.unitMap", laid_time_unitMap)] }
def FnParseFractionSaid : Prop := fnParseFractionRow.holds Tryd.pinned (OpenSpec.ofChange fnParseFractionSpec)

/-- ITS FALSE NEIGHBOUR: 'it returns false'. Refute it at one input. -/
def fnParseFractionWrong : ChangeSpec := { name := "fnParseFraction", fn := fun _ => fun
  | [d1, d2, d3, d4] => { results := [.lit (.bool false)], args := [d1, d2, d3, d4] }
  | _ => none }
def FnParseFractionWrongFalsely : Prop := fnParseFractionRow.holds Tryd.pinned (OpenSpec.ofChange fnParseFractionWrong)

/-- 'laws.FnParseMicros': WHATEVER THE INPUT: true; the input reads as it did. -/
def fnParseMicrosSpec : ChangeSpec := { name := "fnParseMicros", fn := fun _ => fun
  | [d] => { results := [.lit (.bool true)], args := [d] }
  | _ => none }
def fnParseMicrosRow : OpenClaim := { program := "yteejjhdfebhagaadoor", sum := "c4ab5d015d0c1ca5e98e9587c75fbd2d702501f9759ca89926a8e346ab6a5aff", func := "loop.example/lib-g01188/laws.FnParseMicros", spec := "fnParseMicros", recurses := true, named := ["time.unitMap", "time.errLeadingInt"], apart := false, laid := [("time.errLeadingInt", laid_time_errLeadingInt), ("time.unitMap", laid_time_unitMap)] }
def FnParseMicrosSaid : Prop := fnParseMicrosRow.holds Tryd.pinned (OpenSpec.ofChange fnParseMicrosSpec)

/-- ITS FALSE NEIGHBOUR: 'it returns false'. Refute it at one input. -/
def fnParseMicrosWrong : ChangeSpec := { name := "fnParseMicros", fn := fun _ => fun
  | [d] => { results := [.lit (.bool false)], args := [d] }
  | _ => none }
def FnParseMicrosWrongFalsely : Prop := fnParseMicrosRow.holds Tryd.pinned (OpenSpec.ofChange fnParseMicrosWrong)

/-- 'laws.FnParsePoints': WHATEVER THE INPUT: true; the input reads as it did. -/
def fnParsePointsSpec : ChangeSpec := { name := "fnParsePoints", fn := fun _ => fun
  | [d1, d2] => { results := [.lit (.bool true)], args := [d1, d2] }
  | _ => none }
def fnParsePointsRow : OpenClaim := { program := "yteejjhdfebhagaadoor", sum := "c4ab5d015d0c1ca5e98e9587c75fbd2d702501f9759ca89926a8e346ab6a5aff", func := "loop.example/lib-g01188/laws.FnParsePoints", spec := "fnParsePoints", recurses := true, named := ["time.unitMap", "time.errLeadingInt"], apart := false, laid := [("time.errLeadingInt", laid_time_errLeadingInt), ("time.unitMap", laid_time_unitMap)] }
def FnParsePointsSaid : Prop := fnParsePointsRow.holds Tryd.pinned (OpenSpec.ofChange fnParsePointsSpec)

/-- ITS FALSE NEIGHBOUR: 'it returns false'. Refute it at one input. -/
def fnParsePointsWrong : ChangeSpec := { name := "fnParsePoints", fn := fun _ => fun
  | [d1, d2] => { results := [.lit (.bool false)], args := [d1, d2] }
  | _ => none }
def FnParsePointsWrongFalsely : Prop := fnParsePointsRow.holds Tryd.pinned (OpenSpec.ofChange fnParsePointsWrong)

/-- 'laws.FnParseSums': WHATEVER THE INPUT: true; the input reads as it did. -/
def fnParseSumsSpec : ChangeSpec := { name := "fnParseSums", fn := fun _ => fun
  | [d1, d2, d3, d4] => { results := [.lit (.bool true)], args := [d1, d2, d3, d4] }
  | _ => none }
def fnParseSumsRow : OpenClaim := { program := "yteejjhdfebhagaadoor", sum := "c4ab5d015d0c1ca5e98e9587c75fbd2d702501f9759ca89926a8e346ab6a5aff", func := "loop.example/lib-g01188/laws.FnParseSums", spec := "fnParseSums", recurses := true, named := ["time.unitMap", "time.errLeadingInt"], apart := false, laid := [("time.errLeadingInt", laid_time_errLeadingInt), ("time.unitMap", laid_time_unitMap)] }
def FnParseSumsSaid : Prop := fnParseSumsRow.holds Tryd.pinned (OpenSpec.ofChange fnParseSumsSpec)

/-- ITS FALSE NEIGHBOUR: 'it returns false'. Refute it at one input. -/
def fnParseSumsWrong : ChangeSpec := { name := "fnParseSums", fn := fun _ => fun
  | [d1, d2, d3, d4] => { results := [.lit (.bool false)], args := [d1, d2, d3, d4] }
  | _ => none }
def FnParseSumsWrongFalsely : Prop := fnParseSumsRow.holds Tryd.pinned (OpenSpec.ofChange fnParseSumsWrong)

/-- 'laws.FnParseUnits': WHATEVER THE INPUT: true; the input reads as it did. -/
def fnParseUnitsSpec : ChangeSpec := { name := "fnParseUnits", fn := fun _ => fun
  | [d1, d2] => { results := [.lit (.bool true)], args := [d1, d2] }
  | _ => none }
def fnParseUnitsRow : OpenClaim := { program := "yteejjhdfebhagaadoor", sum := "c4ab5d015d0c1ca5e98e9587c75fbd2d702501f9759ca89926a8e346ab6a5aff", func := "loop.example/lib-g01188/laws.FnParseUnits", spec := "fnParseUnits", recurses := true, named := ["time.unitMap", "time.errLeadingInt"], apart := false, laid := [("time.errLeadingInt", laid_time_errLeadingInt), ("time.unitMap", laid_time_unitMap)] }
def FnParseUnitsSaid : Prop := fnParseUnitsRow.holds Tryd.pinned (OpenSpec.ofChange fnParseUnitsSpec)

/-- ITS FALSE NEIGHBOUR: 'it returns false'. Refute it at one input. -/
def fnParseUnitsWrong : ChangeSpec := { name := "fnParseUnits", fn := fun _ => fun
  | [d1, d2] => { results := [.lit (.bool false)], args := [d1, d2] }
  | _ => none }
def FnParseUnitsWrongFalsely : Prop := fnParseUnitsRow.holds Tryd.pinned (OpenSpec.ofChange fnParseUnitsWrong)

/-- 'laws.FnParseUnknown': WHATEVER THE INPUT: true; the input reads as it did. -/
def fnParseUnknownSpec : ChangeSpec := { name := "fnParseUnknown", fn := fun _ => fun
  | [d1, d2] => { results := [.lit (.bool true)], args := [d1, d2] }
  | _ => none }
def fnParseUnknownRow : OpenClaim := { program := "yteejjhdfebhagaadoor", sum := "c4ab5d015d0c1ca5e98e9587c75fbd2d702501f9759ca89926a8e346ab6a5aff", func := "loop.example/lib-g01188/laws.FnParseUnknown", spec := "fnParseUnknown", recurses := true, named := ["time.unitMap", "time.errLeadingInt"], apart := false, laid := [("time.errLeadingInt", laid_time_errLeadingInt), ("time.unitMap", laid_time_unitMap)] }
def FnParseUnknownSaid : Prop := fnParseUnknownRow.holds Tryd.pinned (OpenSpec.ofChange fnParseUnknownSpec)

/-- ITS FALSE NEIGHBOUR: 'it returns false'. Refute it at one input. -/
def fnParseUnknownWrong : ChangeSpec := { name := "fnParseUnknown", fn := fun _ => fun
  | [d1, d2] => { results := [.lit (.bool false)], args := [d1, d2] }
  | _ => none }
def FnParseUnknownWrongFalsely : Prop := fnParseUnknownRow.holds Tryd.pinned (OpenSpec.ofChange fnParseUnknownWrong)

/-- 'laws.FnParseZeros': WHATEVER THE INPUT: true; the input reads as it did. -/
def fnParseZerosSpec : ChangeSpec := { name := "fnParseZeros", fn := fun _ => fun
  | [d1, d2, d3] => { results := [.lit (.bool true)], args := [d1, d2, d3] }
  | _ => none }
def fnParseZerosRow : OpenClaim := { program := "yteejjhdfebhagaadoor", sum := "c4ab5d015d0c1ca5e98e9587c75fbd2d702501f9759ca89926a8e346ab6a5aff", func := "loop.example/lib-g01188/laws.FnParseZeros", spec := "fnParseZeros", recurses := true, named := ["time.unitMap", "time.errLeadingInt"], apart := false, laid := [("time.errLeadingInt", laid_time_errLeadingInt), ("time.unitMap", laid_time_unitMap)] }
def FnParseZerosSaid : Prop := fnParseZerosRow.holds Tryd.pinned (OpenSpec.ofChange fnParseZerosSpec)

/-- ITS FALSE NEIGHBOUR: 'it returns false'. Refute it at one input. -/
def fnParseZerosWrong : ChangeSpec := { name := "fnParseZeros", fn := fun _ => fun
  | [d1, d2, d3] => { results := [.lit (.bool false)], args := [d1, d2, d3] }
  | _ => none }
def FnParseZerosWrongFalsely : Prop := fnParseZerosRow.holds Tryd.pinned (OpenSpec.ofChange fnParseZerosWrong)

/-- 'laws.FnParseJoined': WHATEVER THE INPUT: true; the input reads as it did. -/
def fnParseJoinedSpec : ChangeSpec := { name := "fnParseJoined", fn := fun _ => fun
  | [d1, d2] => { results := [.lit (.bool true)], args := [d1, d2] }
  | _ => none }
def fnParseJoinedRow : OpenClaim := { program := "yteejjhdfebhagaadoor", sum := "c4ab5d015d0c1ca5e98e9587c75fbd2d702501f9759ca89926a8e346ab6a5aff", func := "loop.example/lib-g01188/laws.FnParseJoined", spec := "fnParseJoined", named := ["time.unitMap", "time.errLeadingInt"], apart := false, laid := [("time.errLeadingInt", laid_time_errLeadingInt), ("time.unitMap", laid_time_unitMap)] }
def FnParseJoinedSaid : Prop := fnParseJoinedRow.holds Tryd.pinned (OpenSpec.ofChange fnParseJoinedSpec)

/-- ITS FALSE NEIGHBOUR: 'it returns false'. Refute it at one input. -/
def fnParseJoinedWrong : ChangeSpec := { name := "fnParseJoined", fn := fun _ => fun
  | [d1, d2] => { results := [.lit (.bool false)], args := [d1, d2] }
  | _ => none }
def FnParseJoinedWrongFalsely : Prop := fnParseJoinedRow.holds Tryd.pinned (OpenSpec.ofChange fnParseJoinedWrong)

/-- 'laws.FnParseNeedsUnit': WHATEVER THE INPUT: true; the input reads as it did. -/
def fnParseNeedsUnitSpec : ChangeSpec := { name := "fnParseNeedsUnit", fn := fun _ => fun
  | [d1, d2] => { results := [.lit (.bool true)], args := [d1, d2] }
  | _ => none }
def fnParseNeedsUnitRow : OpenClaim := { program := "yteejjhdfebhagaadoor", sum := "c4ab5d015d0c1ca5e98e9587c75fbd2d702501f9759ca89926a8e346ab6a5aff", func := "loop.example/lib-g01188/laws.FnParseNeedsUnit", spec := "fnParseNeedsUnit", recurses := true, named := ["time.unitMap", "time.errLeadingInt"], apart := false, laid := [("time.errLeadingInt", laid_time_errLeadingInt), ("time.unitMap", laid_time_unitMap)] }
def FnParseNeedsUnitSaid : Prop := fnParseNeedsUnitRow.holds Tryd.pinned (OpenSpec.ofChange fnParseNeedsUnitSpec)

/-- ITS FALSE NEIGHBOUR: 'it returns false'. Refute it at one input. -/
def fnParseNeedsUnitWrong : ChangeSpec := { name := "fnParseNeedsUnit", fn := fun _ => fun
  | [d1, d2] => { results := [.lit (.bool false)], args := [d1, d2] }
  | _ => none }
def FnParseNeedsUnitWrongFalsely : Prop := fnParseNeedsUnitRow.holds Tryd.pinned (OpenSpec.ofChange fnParseNeedsUnitWrong)

/-- 'laws.FnParseSigned': WHATEVER THE INPUT: true; the input reads as it did. -/
def fnParseSignedSpec : ChangeSpec := { name := "fnParseSigned", fn := fun _ => fun
  | [d] => { results := [.lit (.bool true)], args := [d] }
  | _ => none }
def fnParseSignedRow : OpenClaim := { program := "yteejjhdfebhagaadoor", sum := "c4ab5d015d0c1ca5e98e9587c75fbd2d702501f9759ca89926a8e346ab6a5aff", func := "loop.example/lib-g01188/laws.FnParseSigned", spec := "fnParseSigned", named := ["time.unitMap", "time.errLeadingInt"], apart := false, laid := [("time.errLeadingInt", laid_time_errLeadingInt), ("time.unitMap", laid_time_unitMap)] }
def FnParseSignedSaid : Prop := fnParseSignedRow.holds Tryd.pinned (OpenSpec.ofChange fnParseSignedSpec)

/-- ITS FALSE NEIGHBOUR: 'it returns false'. Refute it at one input. -/
def fnParseSignedWrong : ChangeSpec := { name := "fnParseSigned", fn := fun _ => fun
  | [d] => { results := [.lit (.bool false)], args := [d] }
  | _ => none }
def FnParseSignedWrongFalsely : Prop := fnParseSignedRow.holds Tryd.pinned (OpenSpec.ofChange fnParseSignedWrong)

/- THE SECOND FORM. 'bulk': how many values and letters a reading holds, each counted each time it is reached (what is shared counts as often as it is met; a slice's spare places count too). A statement '..UptoSaid' is the law's where the arguments, and the package variables that the reading takes, are together of bulk at most 1048576: NARROWER than '..Said'. Prove '..Said' where nothing that the law and all that it calls make is longer than what came in: it says more and counts as full. Else prove '..UptoSaid'. A law counts once. -/
mutual
def uptoBulk {H : Type} : DataW H → Nat
  | .lit (.string bytes) => bytes.length + 1
  | .lit _ => 1
  | .nil => 1
  | .ptr d => uptoBulk d + 1
  | .slice elems spare => uptoBulkAll elems + uptoBulkAll spare + 1
  | .agg parts => uptoBulkAll parts + 1
  | .iface _ d => uptoBulk d + 1
  | .map entries => uptoBulkEntries entries + 1
  | .held _ => 1
def uptoBulkAll {H : Type} : List (DataW H) → Nat
  | [] => 0
  | d :: r => uptoBulk d + uptoBulkAll r
def uptoBulkEntries {H : Type} : List (Lit × DataW H) → Nat
  | [] => 0
  | x :: r => uptoBulkEntry x + uptoBulkEntries r
def uptoBulkEntry {H : Type} : Lit × DataW H → Nat
  | (.string bytes, d) => bytes.length + uptoBulk d + 1
  | (_, d) => uptoBulk d + 1
 end
def uptoSmall : (H : Type) → List (DataW H) → Bool := fun _ ds => decide (uptoBulkAll ds ≤ 1048576)
def OpenSpec.upto (s : _root_.Go.ChangeSpec) : _root_.Go.OpenSpec := { _root_.Go.OpenSpec.ofChange s with cond := some uptoSmall }

/-- 'laws.FnParseString', WHERE WHAT IT READS IS OF BULK AT MOST 1048576: true; the input reads as it did. -/
def fnParseStringUptoRow : OpenClaim := { program := "yteejjhdfebhagaadoor", sum := "c4ab5d015d0c1ca5e98e9587c75fbd2d702501f9759ca89926a8e346ab6a5aff", func := "loop.example/lib-g01188/laws.FnParseString", spec := "fnParseString", named := ["time.unitMap", "time.errLeadingInt"], apart := false, laid := [("time.errLeadingInt", laid_time_errLeadingInt), ("time.unitMap", laid_time_unitMap)], narrowed := true }
def FnParseStringUptoSaid : Prop := fnParseStringUptoRow.holds Tryd.pinned (OpenSpec.upto fnParseStringSpec)

/-- 'laws.FnStringOfParse', WHERE WHAT IT READS IS OF BULK AT MOST 1048576: true; the input reads as it did. -/
def fnStringOfParseUptoRow : OpenClaim := { program := "yteejjhdfebhagaadoor", sum := "c4ab5d015d0c1ca5e98e9587c75fbd2d702501f9759ca89926a8e346ab6a5aff", func := "loop.example/lib-g01188/laws.FnStringOfParse", spec := "fnStringOfParse", named := ["time.unitMap", "time.errLeadingInt"], apart := false, laid := [("time.errLeadingInt", laid_time_errLeadingInt), ("time.unitMap", laid_time_unitMap)], narrowed := true }
def FnStringOfParseUptoSaid : Prop := fnStringOfParseUptoRow.holds Tryd.pinned (OpenSpec.upto fnStringOfParseSpec)

/-- 'laws.FnSecondsOfText', WHERE WHAT IT READS IS OF BULK AT MOST 1048576: true; the input reads as it did. -/
def fnSecondsOfTextUptoRow : OpenClaim := { program := "yteejjhdfebhagaadoor", sum := "c4ab5d015d0c1ca5e98e9587c75fbd2d702501f9759ca89926a8e346ab6a5aff", func := "loop.example/lib-g01188/laws.FnSecondsOfText", spec := "fnSecondsOfText", recurses := true, named := ["time.unitMap", "time.errLeadingInt"], apart := false, laid := [("time.errLeadingInt", laid_time_errLeadingInt), ("time.unitMap", laid_time_unitMap)], narrowed := true }
def FnSecondsOfTextUptoSaid : Prop := fnSecondsOfTextUptoRow.holds Tryd.pinned (OpenSpec.upto fnSecondsOfTextSpec)

/-- 'laws.FnParse', WHERE WHAT IT READS IS OF BULK AT MOST 1048576: true; the input reads as it did. -/
def fnParseUptoRow : OpenClaim := { program := "yteejjhdfebhagaadoor", sum := "c4ab5d015d0c1ca5e98e9587c75fbd2d702501f9759ca89926a8e346ab6a5aff", func := "loop.example/lib-g01188/laws.FnParse", spec := "fnParse", named := ["time.unitMap", "time.errLeadingInt"], apart := false, laid := [("time.errLeadingInt", laid_time_errLeadingInt), ("time.unitMap", laid_time_unitMap)], narrowed := true }
def FnParseUptoSaid : Prop := fnParseUptoRow.holds Tryd.pinned (OpenSpec.upto fnParseSpec)

/-- 'laws.FnParseFraction', WHERE WHAT IT READS IS OF BULK AT MOST 1048576: true; the input reads as it did. -/
def fnParseFractionUptoRow : OpenClaim := { program := "yteejjhdfebhagaadoor", sum := "c4ab5d015d0c1ca5e98e9587c75fbd2d702501f9759ca89926a8e346ab6a5aff", func := "loop.example/lib-g01188/laws.FnParseFraction", spec := "fnParseFraction", recurses := true, named := ["time.unitMap", "time.errLeadingInt"], apart := false, laid := [("time.errLeadingInt", laid_time_errLeadingInt), ("time.unitMap", laid_time_unitMap)], narrowed := true }
def FnParseFractionUptoSaid : Prop := fnParseFractionUptoRow.holds Tryd.pinned (OpenSpec.upto fnParseFractionSpec)

/-- 'laws.FnParseMicros', WHERE WHAT IT READS IS OF BULK AT MOST 1048576: true; the input reads as it did. -/
def fnParseMicrosUptoRow : OpenClaim := { program := "yteejjhdfebhagaadoor", sum := "c4ab5d015d0c1ca5e98e9587c75fbd2d702501f9759ca89926a8e346ab6a5aff", func := "loop.example/lib-g01188/laws.FnParseMicros", spec := "fnParseMicros", recurses := true, named := ["time.unitMap", "time.errLeadingInt"], apart := false, laid := [("time.errLeadingInt", laid_time_errLeadingInt), ("time.unitMap", laid_time_unitMap)], narrowed := true }
def FnParseMicrosUptoSaid : Prop := fnParseMicrosUptoRow.holds Tryd.pinned (OpenSpec.upto fnParseMicrosSpec)

/-- 'laws.FnParsePoints', WHERE WHAT IT READS IS OF BULK AT MOST 1048576: true; the input reads as it did. -/
def fnParsePointsUptoRow : OpenClaim := { program := "yteejjhdfebhagaadoor", sum := "c4ab5d015d0c1ca5e98e9587c75fbd2d702501f9759ca89926a8e346ab6a5aff", func := "loop.example/lib-g01188/laws.FnParsePoints", spec := "fnParsePoints", recurses := true, named := ["time.unitMap", "time.errLeadingInt"], apart := false, laid := [("time.errLeadingInt", laid_time_errLeadingInt), ("time.unitMap", laid_time_unitMap)], narrowed := true }
def FnParsePointsUptoSaid : Prop := fnParsePointsUptoRow.holds Tryd.pinned (OpenSpec.upto fnParsePointsSpec)

/-- 'laws.FnParseSums', WHERE WHAT IT READS IS OF BULK AT MOST 1048576: true; the input reads as it did. -/
def fnParseSumsUptoRow : OpenClaim := { program := "yteejjhdfebhagaadoor", sum := "c4ab5d015d0c1ca5e98e9587c75fbd2d702501f9759ca89926a8e346ab6a5aff", func := "loop.example/lib-g01188/laws.FnParseSums", spec := "fnParseSums", recurses := true, named := ["time.unitMap", "time.errLeadingInt"], apart := false, laid := [("time.errLeadingInt", laid_time_errLeadingInt), ("time.unitMap", laid_time_unitMap)], narrowed := true }
def FnParseSumsUptoSaid : Prop := fnParseSumsUptoRow.holds Tryd.pinned (OpenSpec.upto fnParseSumsSpec)

/-- 'laws.FnParseUnits', WHERE WHAT IT READS IS OF BULK AT MOST 1048576: true; the input reads as it did. -/
def fnParseUnitsUptoRow : OpenClaim := { program := "yteejjhdfebhagaadoor", sum := "c4ab5d015d0c1ca5e98e9587c75fbd2d702501f9759ca89926a8e346ab6a5aff", func := "loop.example/lib-g01188/laws.FnParseUnits", spec := "fnParseUnits", recurses := true, named := ["time.unitMap", "time.errLeadingInt"], apart := false, laid := [("time.errLeadingInt", laid_time_errLeadingInt), ("time.unitMap", laid_time_unitMap)], narrowed := true }
def FnParseUnitsUptoSaid : Prop := fnParseUnitsUptoRow.holds Tryd.pinned (OpenSpec.upto fnParseUnitsSpec)

/-- 'laws.FnParseUnknown', WHERE WHAT IT READS IS OF BULK AT MOST 1048576: true; the input reads as it did. -/
def fnParseUnknownUptoRow : OpenClaim := { program := "yteejjhdfebhagaadoor", sum := "c4ab5d015d0c1ca5e98e9587c75fbd2d702501f9759ca89926a8e346ab6a5aff", func := "loop.example/lib-g01188/laws.FnParseUnknown", spec := "fnParseUnknown", recurses := true, named := ["time.unitMap", "time.errLeadingInt"], apart := false, laid := [("time.errLeadingInt", laid_time_errLeadingInt), ("time.unitMap", laid_time_unitMap)], narrowed := true }
def FnParseUnknownUptoSaid : Prop := fnParseUnknownUptoRow.holds Tryd.pinned (OpenSpec.upto fnParseUnknownSpec)

/-- 'laws.FnParseZeros', WHERE WHAT IT READS IS OF BULK AT MOST 1048576: true; the input reads as it did. -/
def fnParseZerosUptoRow : OpenClaim := { program := "yteejjhdfebhagaadoor", sum := "c4ab5d015d0c1ca5e98e9587c75fbd2d702501f9759ca89926a8e346ab6a5aff", func := "loop.example/lib-g01188/laws.FnParseZeros", spec := "fnParseZeros", recurses := true, named := ["time.unitMap", "time.errLeadingInt"], apart := false, laid := [("time.errLeadingInt", laid_time_errLeadingInt), ("time.unitMap", laid_time_unitMap)], narrowed := true }
def FnParseZerosUptoSaid : Prop := fnParseZerosUptoRow.holds Tryd.pinned (OpenSpec.upto fnParseZerosSpec)

/-- 'laws.FnParseJoined', WHERE WHAT IT READS IS OF BULK AT MOST 1048576: true; the input reads as it did. -/
def fnParseJoinedUptoRow : OpenClaim := { program := "yteejjhdfebhagaadoor", sum := "c4ab5d015d0c1ca5e98e9587c75fbd2d702501f9759ca89926a8e346ab6a5aff", func := "loop.example/lib-g01188/laws.FnParseJoined", spec := "fnParseJoined", named := ["time.unitMap", "time.errLeadingInt"], apart := false, laid := [("time.errLeadingInt", laid_time_errLeadingInt), ("time.unitMap", laid_time_unitMap)], narrowed := true }
def FnParseJoinedUptoSaid : Prop := fnParseJoinedUptoRow.holds Tryd.pinned (OpenSpec.upto fnParseJoinedSpec)

/-- 'laws.FnParseNeedsUnit', WHERE WHAT IT READS IS OF BULK AT MOST 1048576: true; the input reads as it did. -/
def fnParseNeedsUnitUptoRow : OpenClaim := { program := "yteejjhdfebhagaadoor", sum := "c4ab5d015d0c1ca5e98e9587c75fbd2d702501f9759ca89926a8e346ab6a5aff", func := "loop.example/lib-g01188/laws.FnParseNeedsUnit", spec := "fnParseNeedsUnit", recurses := true, named := ["time.unitMap", "time.errLeadingInt"], apart := false, laid := [("time.errLeadingInt", laid_time_errLeadingInt), ("time.unitMap", laid_time_unitMap)], narrowed := true }
def FnParseNeedsUnitUptoSaid : Prop := fnParseNeedsUnitUptoRow.holds Tryd.pinned (OpenSpec.upto fnParseNeedsUnitSpec)

/-- 'laws.FnParseSigned', WHERE WHAT IT READS IS OF BULK AT MOST 1048576: true; the input reads as it did. -/
def fnParseSignedUptoRow : OpenClaim := { program := "yteejjhdfebhagaadoor", sum := "c4ab5d015d0c1ca5e98e9587c75fbd2d702501f9759ca89926a8e346ab6a5aff", func := "loop.example/lib-g01188/laws.FnParseSigned", spec := "fnParseSigned", named := ["time.unitMap", "time.errLeadingInt"], apart := false, laid := [("time.errLeadingInt", laid_time_errLeadingInt), ("time.unitMap", laid_time_unitMap)], narrowed := true }
def FnParseSignedUptoSaid : Prop := fnParseSignedUptoRow.holds Tryd.pinned (OpenSpec.upto fnParseSignedSpec)

end Rows
end Go.Proofs.YteejjhdfebhagaaDoor
