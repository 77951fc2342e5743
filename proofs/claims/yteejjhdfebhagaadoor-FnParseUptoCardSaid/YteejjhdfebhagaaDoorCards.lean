/-
  DERIVED. GIVEN WITH THE SEED: THE CARDS: each row of YteejjhdfebhagaaDoorRows.lean that lists a variable, with what it lists TIED to the program's text (the seventh form; the later family's looks); each row that meets fmt, with fmt's text TOLD by the authors' own Lean function (tested against real Go, not proved from fmt's source: count such statements apart). THE CARD IS WHAT COUNTS. Prove the row's statement (the work); the ties are given (YteejjhdfebhagaaDoorTie.lean); close each card by the builder's one call (the guide's Derived/Test/ToyasCard.lean, 'card_holds'). Laid BY PROGRAM, IN A SANDBOX (cutbox-door.mjs). By AI agents, Wed Nov 11 2026. No macro, syntax, notation, axiom, sorry.
-/
import Derived.Test.YteejjhdfebhagaaDoorRows
import GoSem.ClaimSeven
namespace Go.Proofs.YteejjhdfebhagaaDoor
namespace Rows

/-- THE TIED CARD OF 'laws.FnParseString'. -/
def fnParseStringCard : Claim7 := { stood := { row := fnParseStringRow, standIns := [], harness := (true, "6969496275e6b9b8a3db725b1d10e0d7779617edaa5d783da560d553890d6976"), looks := false }, kinds := [], alts := [], laidByText := true, laidKinds := [.sentinel, .mapped], laidTests := true, laidLooks := .later }
def FnParseStringCardSaid : Prop := Claim7.holds Tryd.pinned (.plain (OpenSpec.ofChange fnParseStringSpec)) fnParseStringCard

/-- THE TIED CARD OF 'laws.FnStringOfParse'. -/
def fnStringOfParseCard : Claim7 := { stood := { row := fnStringOfParseRow, standIns := [], harness := (true, "6969496275e6b9b8a3db725b1d10e0d7779617edaa5d783da560d553890d6976"), looks := false }, kinds := [], alts := [], laidByText := true, laidKinds := [.sentinel, .mapped], laidTests := true, laidLooks := .later }
def FnStringOfParseCardSaid : Prop := Claim7.holds Tryd.pinned (.plain (OpenSpec.ofChange fnStringOfParseSpec)) fnStringOfParseCard

/-- THE TIED CARD OF 'laws.FnSecondsOfText'. -/
def fnSecondsOfTextCard : Claim7 := { stood := { row := fnSecondsOfTextRow, standIns := [], harness := (true, "6969496275e6b9b8a3db725b1d10e0d7779617edaa5d783da560d553890d6976"), looks := false }, kinds := [], alts := [], laidByText := true, laidKinds := [.sentinel, .mapped], laidTests := true, laidLooks := .later }
def FnSecondsOfTextCardSaid : Prop := Claim7.holds Tryd.pinned (.plain (OpenSpec.ofChange fnSecondsOfTextSpec)) fnSecondsOfTextCard

/-- THE TIED CARD OF 'laws.FnParse'. -/
def fnParseCard : Claim7 := { stood := { row := fnParseRow, standIns := [], harness := (true, "6969496275e6b9b8a3db725b1d10e0d7779617edaa5d783da560d553890d6976"), looks := false }, kinds := [], alts := [], laidByText := true, laidKinds := [.sentinel, .mapped], laidTests := true, laidLooks := .later }
def FnParseCardSaid : Prop := Claim7.holds Tryd.pinned (.plain (OpenSpec.ofChange fnParseSpec)) fnParseCard

/-- THE TIED CARD OF 'laws.FnParseFraction'. -/
def fnParseFractionCard : Claim7 := { stood := { row := fnParseFractionRow, standIns := [], harness := (true, "6969496275e6b9b8a3db725b1d10e0d7779617edaa5d783da560d553890d6976"), looks := false }, kinds := [], alts := [], laidByText := true, laidKinds := [.sentinel, .mapped], laidTests := true, laidLooks := .later }
def FnParseFractionCardSaid : Prop := Claim7.holds Tryd.pinned (.plain (OpenSpec.ofChange fnParseFractionSpec)) fnParseFractionCard

/-- THE TIED CARD OF 'laws.FnParseMicros'. -/
def fnParseMicrosCard : Claim7 := { stood := { row := fnParseMicrosRow, standIns := [], harness := (true, "6969496275e6b9b8a3db725b1d10e0d7779617edaa5d783da560d553890d6976"), looks := false }, kinds := [], alts := [], laidByText := true, laidKinds := [.sentinel, .mapped], laidTests := true, laidLooks := .later }
def FnParseMicrosCardSaid : Prop := Claim7.holds Tryd.pinned (.plain (OpenSpec.ofChange fnParseMicrosSpec)) fnParseMicrosCard

/-- THE TIED CARD OF 'laws.FnParsePoints'. -/
def fnParsePointsCard : Claim7 := { stood := { row := fnParsePointsRow, standIns := [], harness := (true, "6969496275e6b9b8a3db725b1d10e0d7779617edaa5d783da560d553890d6976"), looks := false }, kinds := [], alts := [], laidByText := true, laidKinds := [.sentinel, .mapped], laidTests := true, laidLooks := .later }
def FnParsePointsCardSaid : Prop := Claim7.holds Tryd.pinned (.plain (OpenSpec.ofChange fnParsePointsSpec)) fnParsePointsCard

/-- THE TIED CARD OF 'laws.FnParseSums'. -/
def fnParseSumsCard : Claim7 := { stood := { row := fnParseSumsRow, standIns := [], harness := (true, "6969496275e6b9b8a3db725b1d10e0d7779617edaa5d783da560d553890d6976"), looks := false }, kinds := [], alts := [], laidByText := true, laidKinds := [.sentinel, .mapped], laidTests := true, laidLooks := .later }
def FnParseSumsCardSaid : Prop := Claim7.holds Tryd.pinned (.plain (OpenSpec.ofChange fnParseSumsSpec)) fnParseSumsCard

/-- THE TIED CARD OF 'laws.FnParseUnits'. -/
def fnParseUnitsCard : Claim7 := { stood := { row := fnParseUnitsRow, standIns := [], harness := (true, "6969496275e6b9b8a3db725b1d10e0d7779617edaa5d783da560d553890d6976"), looks := false }, kinds := [], alts := [], laidByText := true, laidKinds := [.sentinel, .mapped], laidTests := true, laidLooks := .later }
def FnParseUnitsCardSaid : Prop := Claim7.holds Tryd.pinned (.plain (OpenSpec.ofChange fnParseUnitsSpec)) fnParseUnitsCard

/-- THE TIED CARD OF 'laws.FnParseUnknown'. -/
def fnParseUnknownCard : Claim7 := { stood := { row := fnParseUnknownRow, standIns := [], harness := (true, "6969496275e6b9b8a3db725b1d10e0d7779617edaa5d783da560d553890d6976"), looks := false }, kinds := [], alts := [], laidByText := true, laidKinds := [.sentinel, .mapped], laidTests := true, laidLooks := .later }
def FnParseUnknownCardSaid : Prop := Claim7.holds Tryd.pinned (.plain (OpenSpec.ofChange fnParseUnknownSpec)) fnParseUnknownCard

/-- THE TIED CARD OF 'laws.FnParseZeros'. -/
def fnParseZerosCard : Claim7 := { stood := { row := fnParseZerosRow, standIns := [], harness := (true, "6969496275e6b9b8a3db725b1d10e0d7779617edaa5d783da560d553890d6976"), looks := false }, kinds := [], alts := [], laidByText := true, laidKinds := [.sentinel, .mapped], laidTests := true, laidLooks := .later }
def FnParseZerosCardSaid : Prop := Claim7.holds Tryd.pinned (.plain (OpenSpec.ofChange fnParseZerosSpec)) fnParseZerosCard

/-- THE TIED CARD OF 'laws.FnParseJoined'. -/
def fnParseJoinedCard : Claim7 := { stood := { row := fnParseJoinedRow, standIns := [], harness := (true, "6969496275e6b9b8a3db725b1d10e0d7779617edaa5d783da560d553890d6976"), looks := false }, kinds := [], alts := [], laidByText := true, laidKinds := [.sentinel, .mapped], laidTests := true, laidLooks := .later }
def FnParseJoinedCardSaid : Prop := Claim7.holds Tryd.pinned (.plain (OpenSpec.ofChange fnParseJoinedSpec)) fnParseJoinedCard

/-- THE TIED CARD OF 'laws.FnParseNeedsUnit'. -/
def fnParseNeedsUnitCard : Claim7 := { stood := { row := fnParseNeedsUnitRow, standIns := [], harness := (true, "6969496275e6b9b8a3db725b1d10e0d7779617edaa5d783da560d553890d6976"), looks := false }, kinds := [], alts := [], laidByText := true, laidKinds := [.sentinel, .mapped], laidTests := true, laidLooks := .later }
def FnParseNeedsUnitCardSaid : Prop := Claim7.holds Tryd.pinned (.plain (OpenSpec.ofChange fnParseNeedsUnitSpec)) fnParseNeedsUnitCard

/-- THE TIED CARD OF 'laws.FnParseSigned'. -/
def fnParseSignedCard : Claim7 := { stood := { row := fnParseSignedRow, standIns := [], harness := (true, "6969496275e6b9b8a3db725b1d10e0d7779617edaa5d783da560d553890d6976"), looks := false }, kinds := [], alts := [], laidByText := true, laidKinds := [.sentinel, .mapped], laidTests := true, laidLooks := .later }
def FnParseSignedCardSaid : Prop := Claim7.holds Tryd.pinned (.plain (OpenSpec.ofChange fnParseSignedSpec)) fnParseSignedCard

/-- THE SECOND FORM's CARD OF 'laws.FnParseString'. -/
def fnParseStringUptoCard : Claim7 := { stood := { row := fnParseStringUptoRow, standIns := [], harness := (true, "6969496275e6b9b8a3db725b1d10e0d7779617edaa5d783da560d553890d6976"), looks := false }, kinds := [], alts := [], laidByText := true, laidKinds := [.sentinel, .mapped], laidTests := true, laidLooks := .later }
def FnParseStringUptoCardSaid : Prop := Claim7.holds Tryd.pinned (.plain (OpenSpec.upto fnParseStringSpec)) fnParseStringUptoCard

/-- THE SECOND FORM's CARD OF 'laws.FnStringOfParse'. -/
def fnStringOfParseUptoCard : Claim7 := { stood := { row := fnStringOfParseUptoRow, standIns := [], harness := (true, "6969496275e6b9b8a3db725b1d10e0d7779617edaa5d783da560d553890d6976"), looks := false }, kinds := [], alts := [], laidByText := true, laidKinds := [.sentinel, .mapped], laidTests := true, laidLooks := .later }
def FnStringOfParseUptoCardSaid : Prop := Claim7.holds Tryd.pinned (.plain (OpenSpec.upto fnStringOfParseSpec)) fnStringOfParseUptoCard

/-- THE SECOND FORM's CARD OF 'laws.FnSecondsOfText'. -/
def fnSecondsOfTextUptoCard : Claim7 := { stood := { row := fnSecondsOfTextUptoRow, standIns := [], harness := (true, "6969496275e6b9b8a3db725b1d10e0d7779617edaa5d783da560d553890d6976"), looks := false }, kinds := [], alts := [], laidByText := true, laidKinds := [.sentinel, .mapped], laidTests := true, laidLooks := .later }
def FnSecondsOfTextUptoCardSaid : Prop := Claim7.holds Tryd.pinned (.plain (OpenSpec.upto fnSecondsOfTextSpec)) fnSecondsOfTextUptoCard

/-- THE SECOND FORM's CARD OF 'laws.FnParse'. -/
def fnParseUptoCard : Claim7 := { stood := { row := fnParseUptoRow, standIns := [], harness := (true, "6969496275e6b9b8a3db725b1d10e0d7779617edaa5d783da560d553890d6976"), looks := false }, kinds := [], alts := [], laidByText := true, laidKinds := [.sentinel, .mapped], laidTests := true, laidLooks := .later }
def FnParseUptoCardSaid : Prop := Claim7.holds Tryd.pinned (.plain (OpenSpec.upto fnParseSpec)) fnParseUptoCard

/-- THE SECOND FORM's CARD OF 'laws.FnParseFraction'. -/
def fnParseFractionUptoCard : Claim7 := { stood := { row := fnParseFractionUptoRow, standIns := [], harness := (true, "6969496275e6b9b8a3db725b1d10e0d7779617edaa5d783da560d553890d6976"), looks := false }, kinds := [], alts := [], laidByText := true, laidKinds := [.sentinel, .mapped], laidTests := true, laidLooks := .later }
def FnParseFractionUptoCardSaid : Prop := Claim7.holds Tryd.pinned (.plain (OpenSpec.upto fnParseFractionSpec)) fnParseFractionUptoCard

/-- THE SECOND FORM's CARD OF 'laws.FnParseMicros'. -/
def fnParseMicrosUptoCard : Claim7 := { stood := { row := fnParseMicrosUptoRow, standIns := [], harness := (true, "6969496275e6b9b8a3db725b1d10e0d7779617edaa5d783da560d553890d6976"), looks := false }, kinds := [], alts := [], laidByText := true, laidKinds := [.sentinel, .mapped], laidTests := true, laidLooks := .later }
def FnParseMicrosUptoCardSaid : Prop := Claim7.holds Tryd.pinned (.plain (OpenSpec.upto fnParseMicrosSpec)) fnParseMicrosUptoCard

/-- THE SECOND FORM's CARD OF 'laws.FnParsePoints'. -/
def fnParsePointsUptoCard : Claim7 := { stood := { row := fnParsePointsUptoRow, standIns := [], harness := (true, "6969496275e6b9b8a3db725b1d10e0d7779617edaa5d783da560d553890d6976"), looks := false }, kinds := [], alts := [], laidByText := true, laidKinds := [.sentinel, .mapped], laidTests := true, laidLooks := .later }
def FnParsePointsUptoCardSaid : Prop := Claim7.holds Tryd.pinned (.plain (OpenSpec.upto fnParsePointsSpec)) fnParsePointsUptoCard

/-- THE SECOND FORM's CARD OF 'laws.FnParseSums'. -/
def fnParseSumsUptoCard : Claim7 := { stood := { row := fnParseSumsUptoRow, standIns := [], harness := (true, "6969496275e6b9b8a3db725b1d10e0d7779617edaa5d783da560d553890d6976"), looks := false }, kinds := [], alts := [], laidByText := true, laidKinds := [.sentinel, .mapped], laidTests := true, laidLooks := .later }
def FnParseSumsUptoCardSaid : Prop := Claim7.holds Tryd.pinned (.plain (OpenSpec.upto fnParseSumsSpec)) fnParseSumsUptoCard

/-- THE SECOND FORM's CARD OF 'laws.FnParseUnits'. -/
def fnParseUnitsUptoCard : Claim7 := { stood := { row := fnParseUnitsUptoRow, standIns := [], harness := (true, "6969496275e6b9b8a3db725b1d10e0d7779617edaa5d783da560d553890d6976"), looks := false }, kinds := [], alts := [], laidByText := true, laidKinds := [.sentinel, .mapped], laidTests := true, laidLooks := .later }
def FnParseUnitsUptoCardSaid : Prop := Claim7.holds Tryd.pinned (.plain (OpenSpec.upto fnParseUnitsSpec)) fnParseUnitsUptoCard

/-- THE SECOND FORM's CARD OF 'laws.FnParseUnknown'. -/
def fnParseUnknownUptoCard : Claim7 := { stood := { row := fnParseUnknownUptoRow, standIns := [], harness := (true, "6969496275e6b9b8a3db725b1d10e0d7779617edaa5d783da560d553890d6976"), looks := false }, kinds := [], alts := [], laidByText := true, laidKinds := [.sentinel, .mapped], laidTests := true, laidLooks := .later }
def FnParseUnknownUptoCardSaid : Prop := Claim7.holds Tryd.pinned (.plain (OpenSpec.upto fnParseUnknownSpec)) fnParseUnknownUptoCard

/-- THE SECOND FORM's CARD OF 'laws.FnParseZeros'. -/
def fnParseZerosUptoCard : Claim7 := { stood := { row := fnParseZerosUptoRow, standIns := [], harness := (true, "6969496275e6b9b8a3db725b1d10e0d7779617edaa5d783da560d553890d6976"), looks := false }, kinds := [], alts := [], laidByText := true, laidKinds := [.sentinel, .mapped], laidTests := true, laidLooks := .later }
def FnParseZerosUptoCardSaid : Prop := Claim7.holds Tryd.pinned (.plain (OpenSpec.upto fnParseZerosSpec)) fnParseZerosUptoCard

/-- THE SECOND FORM's CARD OF 'laws.FnParseJoined'. -/
def fnParseJoinedUptoCard : Claim7 := { stood := { row := fnParseJoinedUptoRow, standIns := [], harness := (true, "6969496275e6b9b8a3db725b1d10e0d7779617edaa5d783da560d553890d6976"), looks := false }, kinds := [], alts := [], laidByText := true, laidKinds := [.sentinel, .mapped], laidTests := true, laidLooks := .later }
def FnParseJoinedUptoCardSaid : Prop := Claim7.holds Tryd.pinned (.plain (OpenSpec.upto fnParseJoinedSpec)) fnParseJoinedUptoCard

/-- THE SECOND FORM's CARD OF 'laws.FnParseNeedsUnit'. -/
def fnParseNeedsUnitUptoCard : Claim7 := { stood := { row := fnParseNeedsUnitUptoRow, standIns := [], harness := (true, "6969496275e6b9b8a3db725b1d10e0d7779617edaa5d783da560d553890d6976"), looks := false }, kinds := [], alts := [], laidByText := true, laidKinds := [.sentinel, .mapped], laidTests := true, laidLooks := .later }
def FnParseNeedsUnitUptoCardSaid : Prop := Claim7.holds Tryd.pinned (.plain (OpenSpec.upto fnParseNeedsUnitSpec)) fnParseNeedsUnitUptoCard

/-- THE SECOND FORM's CARD OF 'laws.FnParseSigned'. -/
def fnParseSignedUptoCard : Claim7 := { stood := { row := fnParseSignedUptoRow, standIns := [], harness := (true, "6969496275e6b9b8a3db725b1d10e0d7779617edaa5d783da560d553890d6976"), looks := false }, kinds := [], alts := [], laidByText := true, laidKinds := [.sentinel, .mapped], laidTests := true, laidLooks := .later }
def FnParseSignedUptoCardSaid : Prop := Claim7.holds Tryd.pinned (.plain (OpenSpec.upto fnParseSignedSpec)) fnParseSignedUptoCard
end Rows
end Go.Proofs.YteejjhdfebhagaaDoor
