/-
  DERIVED. GIVEN WITH THE SEED: THE PROGRAM's TIES (one call each: nine closed facts by the kernel) AND EACH ROW's TIE, after the 31st guide's Derived/Test/Toyas{Tie, Card}.lean. No idea stands in it: it is a product of the set-up. Laid BY PROGRAM, IN A SANDBOX (cutbox-door.mjs). By AI agents, Wed Nov 11 2026. No macro, syntax, notation, axiom, sorry.
-/
import Derived.Test.YtabnabpiiknelaaDoorRows
import Derived.LaidByTextLater
import Derived.SevenTiedAt
import Derived.LaidSub
import Derived.LaidOnce
namespace Go.Proofs.YtabnabpiiknelaaDoor
open Go
set_option maxRecDepth 100000
theorem seatTie1 : Tryd.prog.laidByTextLater [("time.longDayNames", Rows.laid_time_longDayNames), ("time.longMonthNames", Rows.laid_time_longMonthNames)] [.widerDeep, .widerDeep] true :=
  Program.laidByTextLater_by_one 19 8 13 (by kernel_rfl) (by kernel_rfl) (by kernel_rfl) (by kernel_rfl) (by kernel_rfl) (by kernel_rfl) (fun _ _ => by kernel_rfl)
theorem noOwnUnsafe : Tryd.pinned.checked.prog.headLifts.contains "ownunsafe" = false := by kernel_rfl
theorem tie : Tryd.prog.laidByTextLater [("time.longMonthNames", Rows.laid_time_longMonthNames)] [.widerDeep] true :=
  Program.laidByTextLater.sub seatTie1 ["time.longMonthNames"] (by kernel_rfl) (by kernel_rfl)
theorem fnMonth_row_tie : Rows.fnMonthRow.laidByTextAt .later Tryd.pinned [.widerDeep] true :=
  OpenClaim.laidByTextAt_later rfl rfl tie noOwnUnsafe
theorem tie2 : Tryd.prog.laidByTextLater [("time.longDayNames", Rows.laid_time_longDayNames)] [.widerDeep] true :=
  Program.laidByTextLater.sub seatTie1 ["time.longDayNames"] (by kernel_rfl) (by kernel_rfl)
theorem fnWeekday_row_tie : Rows.fnWeekdayRow.laidByTextAt .later Tryd.pinned [.widerDeep] true :=
  OpenClaim.laidByTextAt_later rfl rfl tie2 noOwnUnsafe
theorem tie3 : Tryd.prog.laidByTextLater [("time.longDayNames", Rows.laid_time_longDayNames), ("time.longMonthNames", Rows.laid_time_longMonthNames)] [.widerDeep, .widerDeep] true :=
  Program.laidByTextLater.sub seatTie1 ["time.longDayNames", "time.longMonthNames"] (by kernel_rfl) (by kernel_rfl)
theorem fnNamesDiffer_row_tie : Rows.fnNamesDifferRow.laidByTextAt .later Tryd.pinned [.widerDeep, .widerDeep] true :=
  OpenClaim.laidByTextAt_later rfl rfl tie3 noOwnUnsafe
theorem fnMonthUpto_row_tie : Rows.fnMonthUptoRow.laidByTextAt .later Tryd.pinned [.widerDeep] true :=
  OpenClaim.laidByTextAt_later rfl rfl tie noOwnUnsafe
theorem fnWeekdayUpto_row_tie : Rows.fnWeekdayUptoRow.laidByTextAt .later Tryd.pinned [.widerDeep] true :=
  OpenClaim.laidByTextAt_later rfl rfl tie2 noOwnUnsafe
theorem fnNamesDifferUpto_row_tie : Rows.fnNamesDifferUptoRow.laidByTextAt .later Tryd.pinned [.widerDeep, .widerDeep] true :=
  OpenClaim.laidByTextAt_later rfl rfl tie3 noOwnUnsafe
end Go.Proofs.YtabnabpiiknelaaDoor
