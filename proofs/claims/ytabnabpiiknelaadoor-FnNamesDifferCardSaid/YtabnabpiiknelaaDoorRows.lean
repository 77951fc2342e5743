/-
  NARROWER THAN 'FOR EVERY INPUT', by the rows' own cells (each row's printed sentence says how): FnMonth: laid · FnWeekday: laid · FnNamesDiffer: laid.
  DERIVED. THE GIVEN ROWS OF THIS SEAT. 3 by the template 'for every input the law returns true; each argument reads behind the call as it read before'; 0 by the template 'total and deterministic' (their statements: YtabnabpiiknelaaDoorTotals.lean).
  GIVEN WITH THE SEED: the statements are not yours to turn. If you find one false, say at which input.
  Laid BY PROGRAM, IN A SANDBOX (cutbox-rows.mjs): the forced cells as the released guide's own fill.sh prints them over the translation 5397efd484b43cd2… (all of the seat's roots in one cut). By AI agents, Wed Nov 11 2026. No macro, syntax, notation, axiom, sorry.
-/
import Derived.Test.YtabnabpiiknelaaDoorChecked
import GoSem.Claim
import GoSem.ClaimJoined
import GoSem.ClaimMapViews
import Derived.JoinedTies
import Derived.KernelRfl
namespace Go.Proofs.YtabnabpiiknelaaDoor
/- THE CELL 'sum', in the pinned program and in every row, IS THE sha256 OF THE DUMP (.gsa) THAT YtabnabpiiknelaaDoorProg.lean LOADS. Nothing in Lean hashes anything: it is a label: what it is worth is what the hold of that sum in a sandbox is worth. -/
noncomputable def Tryd.pinned : Pinned := { name := "ytabnabpiiknelaadoor", sum := "5397efd484b43cd2e23fb5b0c476cffdf620e6bfd6fcab229f0216f8a3d77030", checked := Tryd.checked }
namespace Rows
def none {H : Type} : Left H := { results := [], args := [] }

/- WHAT THE LISTED PACKAGE-LEVEL VARIABLES READ AS WHEN THE CALL BEGINS. Each datum BY PROGRAM (the guide's laid-datum.mjs) off the statement by which the dump's own 'gosem.cut.vars' lays the variable. In a bare row this is a premise. The card (YtabnabpiiknelaaDoorCards.lean) ties it to the program's text. -/
def laid_time_longMonthNames {H : Type} : DataW H := .slice [.lit (.string [74, 97, 110, 117, 97, 114, 121]), .lit (.string [70, 101, 98, 114, 117, 97, 114, 121]), .lit (.string [77, 97, 114, 99, 104]), .lit (.string [65, 112, 114, 105, 108]), .lit (.string [77, 97, 121]), .lit (.string [74, 117, 110, 101]), .lit (.string [74, 117, 108, 121]), .lit (.string [65, 117, 103, 117, 115, 116]), .lit (.string [83, 101, 112, 116, 101, 109, 98, 101, 114]), .lit (.string [79, 99, 116, 111, 98, 101, 114]), .lit (.string [78, 111, 118, 101, 109, 98, 101, 114]), .lit (.string [68, 101, 99, 101, 109, 98, 101, 114])] []
def laid_time_longDayNames {H : Type} : DataW H := .slice [.lit (.string [83, 117, 110, 100, 97, 121]), .lit (.string [77, 111, 110, 100, 97, 121]), .lit (.string [84, 117, 101, 115, 100, 97, 121]), .lit (.string [87, 101, 100, 110, 101, 115, 100, 97, 121]), .lit (.string [84, 104, 117, 114, 115, 100, 97, 121]), .lit (.string [70, 114, 105, 100, 97, 121]), .lit (.string [83, 97, 116, 117, 114, 100, 97, 121])] []

/-- 'laws.FnMonth': WHATEVER THE INPUT: true; the input reads as it did. -/
def fnMonthSpec : ChangeSpec := { name := "fnMonth", fn := fun _ => fun
  | [d] => { results := [.lit (.bool true)], args := [d] }
  | _ => none }
def fnMonthRow : OpenClaim := { program := "ytabnabpiiknelaadoor", sum := "5397efd484b43cd2e23fb5b0c476cffdf620e6bfd6fcab229f0216f8a3d77030", func := "loop.example/lib-g01188/laws.FnMonth", spec := "fnMonth", named := ["time.longMonthNames"], apart := false, laid := [("time.longMonthNames", laid_time_longMonthNames)] }
def FnMonthSaid : Prop := fnMonthRow.holds Tryd.pinned (OpenSpec.ofChange fnMonthSpec)

/-- ITS FALSE NEIGHBOUR: 'it returns false'. Refute it at one input. -/
def fnMonthWrong : ChangeSpec := { name := "fnMonth", fn := fun _ => fun
  | [d] => { results := [.lit (.bool false)], args := [d] }
  | _ => none }
def FnMonthWrongFalsely : Prop := fnMonthRow.holds Tryd.pinned (OpenSpec.ofChange fnMonthWrong)

/-- 'laws.FnWeekday': WHATEVER THE INPUT: true; the input reads as it did. -/
def fnWeekdaySpec : ChangeSpec := { name := "fnWeekday", fn := fun _ => fun
  | [d] => { results := [.lit (.bool true)], args := [d] }
  | _ => none }
def fnWeekdayRow : OpenClaim := { program := "ytabnabpiiknelaadoor", sum := "5397efd484b43cd2e23fb5b0c476cffdf620e6bfd6fcab229f0216f8a3d77030", func := "loop.example/lib-g01188/laws.FnWeekday", spec := "fnWeekday", named := ["time.longDayNames"], apart := false, laid := [("time.longDayNames", laid_time_longDayNames)] }
def FnWeekdaySaid : Prop := fnWeekdayRow.holds Tryd.pinned (OpenSpec.ofChange fnWeekdaySpec)

/-- ITS FALSE NEIGHBOUR: 'it returns false'. Refute it at one input. -/
def fnWeekdayWrong : ChangeSpec := { name := "fnWeekday", fn := fun _ => fun
  | [d] => { results := [.lit (.bool false)], args := [d] }
  | _ => none }
def FnWeekdayWrongFalsely : Prop := fnWeekdayRow.holds Tryd.pinned (OpenSpec.ofChange fnWeekdayWrong)

/-- 'laws.FnNamesDiffer': WHATEVER THE INPUT: true; the input reads as it did. -/
def fnNamesDifferSpec : ChangeSpec := { name := "fnNamesDiffer", fn := fun _ => fun
  | [d1, d2] => { results := [.lit (.bool true)], args := [d1, d2] }
  | _ => none }
def fnNamesDifferRow : OpenClaim := { program := "ytabnabpiiknelaadoor", sum := "5397efd484b43cd2e23fb5b0c476cffdf620e6bfd6fcab229f0216f8a3d77030", func := "loop.example/lib-g01188/laws.FnNamesDiffer", spec := "fnNamesDiffer", named := ["time.longMonthNames", "time.longDayNames"], apart := false, laid := [("time.longDayNames", laid_time_longDayNames), ("time.longMonthNames", laid_time_longMonthNames)] }
def FnNamesDifferSaid : Prop := fnNamesDifferRow.holds Tryd.pinned (OpenSpec.ofChange fnNamesDifferSpec)

/-- ITS FALSE NEIGHBOUR: 'it returns false'. Refute it at one input. -/
def fnNamesDifferWrong : ChangeSpec := { name := "fnNamesDiffer", fn := fun _ => fun
  | [d1, d2] => { results := [.lit (.bool false)], args := [d1, d2] }
  | _ => none }
def FnNamesDifferWrongFalsely : Prop := fnNamesDifferRow.holds Tryd.pinned (OpenSpec.ofChange fnNamesDifferWrong)

/- THE SECOND FORM. 'bulk': how many values and letters a reading holds, each counted each time it is reached (what is shared counts as often as it is met; a slice's spare places count too). A statement '..UptoSaid' is the law's where the arguments, and the package variables that the reading takes, are together of bulk at most 1048576: NARROWER than '..Said'. Prove '..Said' where nothing that the law and all that it calls make is longer than what came in: it says more and counts as full. Else prove '..UptoSaid'. A law counts once. -/
mutual
def uptoBulk {H : Type} : DataW H → Nat
  | .lit (.string bytes) => bytes.length + 1
  | .lit _ => 1
  | .nil => 1
  | .ptr d => uptoBulk d + 1
  | .slice elems spare => uptoBulkAll elems + uptoBulkAll spare + 1
  | .agg parts => uptoBulkAll parts + 1
  | .iface _ d => uptoBulk d + 1
  | .map entries => uptoBulkEntries entries + 1
  | .held _ => 1
def uptoBulkAll {H : Type} : List (DataW H) → Nat
  | [] => 0
  | d :: r => uptoBulk d + uptoBulkAll r
def uptoBulkEntries {H : Type} : List (Lit × DataW H) → Nat
  | [] => 0
  | x :: r => uptoBulkEntry x + uptoBulkEntries r
def uptoBulkEntry {H : Type} : Lit × DataW H → Nat
  | (.string bytes, d) => bytes.length + uptoBulk d + 1
  | (_, d) => uptoBulk d + 1
 end
def uptoSmall : (H : Type) → List (DataW H) → Bool := fun _ ds => decide (uptoBulkAll ds ≤ 1048576)
def OpenSpec.upto (s : _root_.Go.ChangeSpec) : _root_.Go.OpenSpec := { _root_.Go.OpenSpec.ofChange s with cond := some uptoSmall }

/-- 'laws.FnMonth', WHERE WHAT IT READS IS OF BULK AT MOST 1048576: true; the input reads as it did. -/
def fnMonthUptoRow : OpenClaim := { program := "ytabnabpiiknelaadoor", sum := "5397efd484b43cd2e23fb5b0c476cffdf620e6bfd6fcab229f0216f8a3d77030", func := "loop.example/lib-g01188/laws.FnMonth", spec := "fnMonth", named := ["time.longMonthNames"], apart := false, laid := [("time.longMonthNames", laid_time_longMonthNames)], narrowed := true }
def FnMonthUptoSaid : Prop := fnMonthUptoRow.holds Tryd.pinned (OpenSpec.upto fnMonthSpec)

/-- 'laws.FnWeekday', WHERE WHAT IT READS IS OF BULK AT MOST 1048576: true; the input reads as it did. -/
def fnWeekdayUptoRow : OpenClaim := { program := "ytabnabpiiknelaadoor", sum := "5397efd484b43cd2e23fb5b0c476cffdf620e6bfd6fcab229f0216f8a3d77030", func := "loop.example/lib-g01188/laws.FnWeekday", spec := "fnWeekday", named := ["time.longDayNames"], apart := false, laid := [("time.longDayNames", laid_time_longDayNames)], narrowed := true }
def FnWeekdayUptoSaid : Prop := fnWeekdayUptoRow.holds Tryd.pinned (OpenSpec.upto fnWeekdaySpec)

/-- 'laws.FnNamesDiffer', WHERE WHAT IT READS IS OF BULK AT MOST 1048576: true; the input reads as it did. -/
def fnNamesDifferUptoRow : OpenClaim := { program := "ytabnabpiiknelaadoor", sum := "5397efd484b43cd2e23fb5b0c476cffdf620e6bfd6fcab229f0216f8a3d77030", func := "loop.example/lib-g01188/laws.FnNamesDiffer", spec := "fnNamesDiffer", named := ["time.longMonthNames", "time.longDayNames"], apart := false, laid := [("time.longDayNames", laid_time_longDayNames), ("time.longMonthNames", laid_time_longMonthNames)], narrowed := true }
def FnNamesDifferUptoSaid : Prop := fnNamesDifferUptoRow.holds Tryd.pinned (OpenSpec.upto fnNamesDifferSpec)

end Rows
end Go.Proofs.YtabnabpiiknelaaDoor
