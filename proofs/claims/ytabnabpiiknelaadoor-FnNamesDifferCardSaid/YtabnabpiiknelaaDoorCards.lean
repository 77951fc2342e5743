/-
  DERIVED. GIVEN WITH THE SEED: THE CARDS: each row of YtabnabpiiknelaaDoorRows.lean that lists a variable, with what it lists TIED to the program's text (the seventh form; the later family's looks); each row that meets fmt, with fmt's text TOLD by the authors' own Lean function (tested against real Go, not proved from fmt's source: count such statements apart). THE CARD IS WHAT COUNTS. Prove the row's statement (the work); the ties are given (YtabnabpiiknelaaDoorTie.lean); close each card by the builder's one call (the guide's Derived/Test/ToyasCard.lean, 'card_holds'). Laid BY PROGRAM, IN A SANDBOX (cutbox-door.mjs). By AI agents, Wed Nov 11 2026. No macro, syntax, notation, axiom, sorry.
-/
import Derived.Test.YtabnabpiiknelaaDoorRows
import GoSem.ClaimSeven
namespace Go.Proofs.YtabnabpiiknelaaDoor
namespace Rows

/-- THE TIED CARD OF 'laws.FnMonth'. -/
def fnMonthCard : Claim7 := { stood := { row := fnMonthRow, standIns := [], harness := (true, "41aca63d7b4615255bd821d7db5fe555255adb639dcbb6bf751983c71d55ce0c"), looks := false }, kinds := [], alts := [], laidByText := true, laidKinds := [.widerDeep], laidTests := true, laidLooks := .later }
def FnMonthCardSaid : Prop := Claim7.holds Tryd.pinned (.plain (OpenSpec.ofChange fnMonthSpec)) fnMonthCard

/-- THE TIED CARD OF 'laws.FnWeekday'. -/
def fnWeekdayCard : Claim7 := { stood := { row := fnWeekdayRow, standIns := [], harness := (true, "41aca63d7b4615255bd821d7db5fe555255adb639dcbb6bf751983c71d55ce0c"), looks := false }, kinds := [], alts := [], laidByText := true, laidKinds := [.widerDeep], laidTests := true, laidLooks := .later }
def FnWeekdayCardSaid : Prop := Claim7.holds Tryd.pinned (.plain (OpenSpec.ofChange fnWeekdaySpec)) fnWeekdayCard

/-- THE TIED CARD OF 'laws.FnNamesDiffer'. -/
def fnNamesDifferCard : Claim7 := { stood := { row := fnNamesDifferRow, standIns := [], harness := (true, "41aca63d7b4615255bd821d7db5fe555255adb639dcbb6bf751983c71d55ce0c"), looks := false }, kinds := [], alts := [], laidByText := true, laidKinds := [.widerDeep, .widerDeep], laidTests := true, laidLooks := .later }
def FnNamesDifferCardSaid : Prop := Claim7.holds Tryd.pinned (.plain (OpenSpec.ofChange fnNamesDifferSpec)) fnNamesDifferCard

/-- THE SECOND FORM's CARD OF 'laws.FnMonth'. -/
def fnMonthUptoCard : Claim7 := { stood := { row := fnMonthUptoRow, standIns := [], harness := (true, "41aca63d7b4615255bd821d7db5fe555255adb639dcbb6bf751983c71d55ce0c"), looks := false }, kinds := [], alts := [], laidByText := true, laidKinds := [.widerDeep], laidTests := true, laidLooks := .later }
def FnMonthUptoCardSaid : Prop := Claim7.holds Tryd.pinned (.plain (OpenSpec.upto fnMonthSpec)) fnMonthUptoCard

/-- THE SECOND FORM's CARD OF 'laws.FnWeekday'. -/
def fnWeekdayUptoCard : Claim7 := { stood := { row := fnWeekdayUptoRow, standIns := [], harness := (true, "41aca63d7b4615255bd821d7db5fe555255adb639dcbb6bf751983c71d55ce0c"), looks := false }, kinds := [], alts := [], laidByText := true, laidKinds := [.widerDeep], laidTests := true, laidLooks := .later }
def FnWeekdayUptoCardSaid : Prop := Claim7.holds Tryd.pinned (.plain (OpenSpec.upto fnWeekdaySpec)) fnWeekdayUptoCard

/-- THE SECOND FORM's CARD OF 'laws.FnNamesDiffer'. -/
def fnNamesDifferUptoCard : Claim7 := { stood := { row := fnNamesDifferUptoRow, standIns := [], harness := (true, "41aca63d7b4615255bd821d7db5fe555255adb639dcbb6bf751983c71d55ce0c"), looks := false }, kinds := [], alts := [], laidByText := true, laidKinds := [.widerDeep, .widerDeep], laidTests := true, laidLooks := .later }
def FnNamesDifferUptoCardSaid : Prop := Claim7.holds Tryd.pinned (.plain (OpenSpec.upto fnNamesDifferSpec)) fnNamesDifferUptoCard
end Rows
end Go.Proofs.YtabnabpiiknelaaDoor
