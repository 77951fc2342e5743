/-
  DERIVED. GIVEN WITH THE SEED: THE PROGRAM's TIES (one call each: nine closed facts by the kernel) AND EACH ROW's TIE, after the 31st guide's Derived/Test/Toyas{Tie, Card}.lean. No idea stands in it: it is a product of the set-up. Laid BY PROGRAM, IN A SANDBOX (cutbox-door.mjs). By AI agents, Wed Nov 11 2026. No macro, syntax, notation, axiom, sorry.
-/
import Derived.Test.YteejjhdfebhagaaDoorRows
import Derived.LaidByTextLater
import Derived.SevenTiedAt
import Derived.LaidSub
import Derived.LaidOnce
namespace Go.Proofs.YteejjhdfebhagaaDoor
open Go
set_option maxRecDepth 100000
theorem seatTie1 : Tryd.prog.laidByTextLater [("time.errLeadingInt", Rows.laid_time_errLeadingInt), ("time.unitMap", Rows.laid_time_unitMap)] [.sentinel, .mapped] true :=
  Program.laidByTextLater_by_one 73 8 2 (by kernel_rfl) (by kernel_rfl) (by kernel_rfl) (by kernel_rfl) (by kernel_rfl) (by kernel_rfl) (fun _ _ => by kernel_rfl)
theorem noOwnUnsafe : Tryd.pinned.checked.prog.headLifts.contains "ownunsafe" = false := by kernel_rfl
theorem tie : Tryd.prog.laidByTextLater [("time.errLeadingInt", Rows.laid_time_errLeadingInt), ("time.unitMap", Rows.laid_time_unitMap)] [.sentinel, .mapped] true :=
  Program.laidByTextLater.sub seatTie1 ["time.errLeadingInt", "time.unitMap"] (by kernel_rfl) (by kernel_rfl)
theorem fnParseString_row_tie : Rows.fnParseStringRow.laidByTextAt .later Tryd.pinned [.sentinel, .mapped] true :=
  OpenClaim.laidByTextAt_later rfl rfl tie noOwnUnsafe
theorem fnStringOfParse_row_tie : Rows.fnStringOfParseRow.laidByTextAt .later Tryd.pinned [.sentinel, .mapped] true :=
  OpenClaim.laidByTextAt_later rfl rfl tie noOwnUnsafe
theorem fnSecondsOfText_row_tie : Rows.fnSecondsOfTextRow.laidByTextAt .later Tryd.pinned [.sentinel, .mapped] true :=
  OpenClaim.laidByTextAt_later rfl rfl tie noOwnUnsafe
theorem fnParse_row_tie : Rows.fnParseRow.laidByTextAt .later Tryd.pinned [.sentinel, .mapped] true :=
  OpenClaim.laidByTextAt_later rfl rfl tie noOwnUnsafe
theorem fnParseFraction_row_tie : Rows.fnParseFractionRow.laidByTextAt .later Tryd.pinned [.sentinel, .mapped] true :=
  OpenClaim.laidByTextAt_later rfl rfl tie noOwnUnsafe
theorem fnParseMicros_row_tie : Rows.fnParseMicrosRow.laidByTextAt .later Tryd.pinned [.sentinel, .mapped] true :=
  OpenClaim.laidByTextAt_later rfl rfl tie noOwnUnsafe
theorem fnParsePoints_row_tie : Rows.fnParsePointsRow.laidByTextAt .later Tryd.pinned [.sentinel, .mapped] true :=
  OpenClaim.laidByTextAt_later rfl rfl tie noOwnUnsafe
theorem fnParseSums_row_tie : Rows.fnParseSumsRow.laidByTextAt .later Tryd.pinned [.sentinel, .mapped] true :=
  OpenClaim.laidByTextAt_later rfl rfl tie noOwnUnsafe
theorem fnParseUnits_row_tie : Rows.fnParseUnitsRow.laidByTextAt .later Tryd.pinned [.sentinel, .mapped] true :=
  OpenClaim.laidByTextAt_later rfl rfl tie noOwnUnsafe
theorem fnParseUnknown_row_tie : Rows.fnParseUnknownRow.laidByTextAt .later Tryd.pinned [.sentinel, .mapped] true :=
  OpenClaim.laidByTextAt_later rfl rfl tie noOwnUnsafe
theorem fnParseZeros_row_tie : Rows.fnParseZerosRow.laidByTextAt .later Tryd.pinned [.sentinel, .mapped] true :=
  OpenClaim.laidByTextAt_later rfl rfl tie noOwnUnsafe
theorem fnParseJoined_row_tie : Rows.fnParseJoinedRow.laidByTextAt .later Tryd.pinned [.sentinel, .mapped] true :=
  OpenClaim.laidByTextAt_later rfl rfl tie noOwnUnsafe
theorem fnParseNeedsUnit_row_tie : Rows.fnParseNeedsUnitRow.laidByTextAt .later Tryd.pinned [.sentinel, .mapped] true :=
  OpenClaim.laidByTextAt_later rfl rfl tie noOwnUnsafe
theorem fnParseSigned_row_tie : Rows.fnParseSignedRow.laidByTextAt .later Tryd.pinned [.sentinel, .mapped] true :=
  OpenClaim.laidByTextAt_later rfl rfl tie noOwnUnsafe
theorem fnParseStringUpto_row_tie : Rows.fnParseStringUptoRow.laidByTextAt .later Tryd.pinned [.sentinel, .mapped] true :=
  OpenClaim.laidByTextAt_later rfl rfl tie noOwnUnsafe
theorem fnStringOfParseUpto_row_tie : Rows.fnStringOfParseUptoRow.laidByTextAt .later Tryd.pinned [.sentinel, .mapped] true :=
  OpenClaim.laidByTextAt_later rfl rfl tie noOwnUnsafe
theorem fnSecondsOfTextUpto_row_tie : Rows.fnSecondsOfTextUptoRow.laidByTextAt .later Tryd.pinned [.sentinel, .mapped] true :=
  OpenClaim.laidByTextAt_later rfl rfl tie noOwnUnsafe
theorem fnParseUpto_row_tie : Rows.fnParseUptoRow.laidByTextAt .later Tryd.pinned [.sentinel, .mapped] true :=
  OpenClaim.laidByTextAt_later rfl rfl tie noOwnUnsafe
theorem fnParseFractionUpto_row_tie : Rows.fnParseFractionUptoRow.laidByTextAt .later Tryd.pinned [.sentinel, .mapped] true :=
  OpenClaim.laidByTextAt_later rfl rfl tie noOwnUnsafe
theorem fnParseMicrosUpto_row_tie : Rows.fnParseMicrosUptoRow.laidByTextAt .later Tryd.pinned [.sentinel, .mapped] true :=
  OpenClaim.laidByTextAt_later rfl rfl tie noOwnUnsafe
theorem fnParsePointsUpto_row_tie : Rows.fnParsePointsUptoRow.laidByTextAt .later Tryd.pinned [.sentinel, .mapped] true :=
  OpenClaim.laidByTextAt_later rfl rfl tie noOwnUnsafe
theorem fnParseSumsUpto_row_tie : Rows.fnParseSumsUptoRow.laidByTextAt .later Tryd.pinned [.sentinel, .mapped] true :=
  OpenClaim.laidByTextAt_later rfl rfl tie noOwnUnsafe
theorem fnParseUnitsUpto_row_tie : Rows.fnParseUnitsUptoRow.laidByTextAt .later Tryd.pinned [.sentinel, .mapped] true :=
  OpenClaim.laidByTextAt_later rfl rfl tie noOwnUnsafe
theorem fnParseUnknownUpto_row_tie : Rows.fnParseUnknownUptoRow.laidByTextAt .later Tryd.pinned [.sentinel, .mapped] true :=
  OpenClaim.laidByTextAt_later rfl rfl tie noOwnUnsafe
theorem fnParseZerosUpto_row_tie : Rows.fnParseZerosUptoRow.laidByTextAt .later Tryd.pinned [.sentinel, .mapped] true :=
  OpenClaim.laidByTextAt_later rfl rfl tie noOwnUnsafe
theorem fnParseJoinedUpto_row_tie : Rows.fnParseJoinedUptoRow.laidByTextAt .later Tryd.pinned [.sentinel, .mapped] true :=
  OpenClaim.laidByTextAt_later rfl rfl tie noOwnUnsafe
theorem fnParseNeedsUnitUpto_row_tie : Rows.fnParseNeedsUnitUptoRow.laidByTextAt .later Tryd.pinned [.sentinel, .mapped] true :=
  OpenClaim.laidByTextAt_later rfl rfl tie noOwnUnsafe
theorem fnParseSignedUpto_row_tie : Rows.fnParseSignedUptoRow.laidByTextAt .later Tryd.pinned [.sentinel, .mapped] true :=
  OpenClaim.laidByTextAt_later rfl rfl tie noOwnUnsafe
end Go.Proofs.YteejjhdfebhagaaDoor
