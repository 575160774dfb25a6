/-
  DERIVED. GIVEN WITH THE SEED: THE CARDS: each row of YtekmminmgjoabaaDoorRows.lean that lists a variable, with what it lists TIED to the program's text (the seventh form; the later family's looks); each row that meets fmt, with fmt's text TOLD by the authors' own Lean function (tested against real Go, not proved from fmt's source: count such statements apart). THE CARD IS WHAT COUNTS. Prove the row's statement (the work); the ties are given (YtekmminmgjoabaaDoorTie.lean); close each card by the builder's one call (the guide's Derived/Test/ToyasCard.lean, 'card_holds'). Laid BY PROGRAM, IN A SANDBOX (cutbox-door.mjs). By AI agents, Wed Nov 11 2026. No macro, syntax, notation, axiom, sorry.
-/
import Derived.Test.YtekmminmgjoabaaDoorRows
import GoSem.ClaimSeven
namespace Go.Proofs.YtekmminmgjoabaaDoor
namespace Rows

/-- THE TIED CARD OF 'laws.FnJSClosed'. -/
def fnJSClosedCard : Claim7 := { stood := { row := fnJSClosedRow, standIns := [], harness := (true, "2e7c9ff87a5e64a7b979f2c7f2ef070ceb8ba5df5714f711d97610625146eaa4"), looks := false }, kinds := [], alts := [], laidByText := true, laidKinds := [.data], laidTests := true, laidLooks := .later }
def FnJSClosedCardSaid : Prop := Claim7.holds Tryd.pinned (.plain (OpenSpec.ofChange fnJSClosedSpec)) fnJSClosedCard

/-- THE TIED CARD OF 'laws.FnJSSmall'. -/
def fnJSSmallCard : Claim7 := { stood := { row := fnJSSmallRow, standIns := [], harness := (true, "2e7c9ff87a5e64a7b979f2c7f2ef070ceb8ba5df5714f711d97610625146eaa4"), looks := false }, kinds := [], alts := [], laidByText := true, laidKinds := [.data], laidTests := true, laidLooks := .later }
def FnJSSmallCardSaid : Prop := Claim7.holds Tryd.pinned (.plain (OpenSpec.ofChange fnJSSmallSpec)) fnJSSmallCard

/-- THE TIED CARD OF 'laws.FnJSStart'. -/
def fnJSStartCard : Claim7 := { stood := { row := fnJSStartRow, standIns := [], harness := (true, "2e7c9ff87a5e64a7b979f2c7f2ef070ceb8ba5df5714f711d97610625146eaa4"), looks := false }, kinds := [], alts := [], laidByText := true, laidKinds := [.data], laidTests := true, laidLooks := .later }
def FnJSStartCardSaid : Prop := Claim7.holds Tryd.pinned (.plain (OpenSpec.ofChange fnJSStartSpec)) fnJSStartCard

/-- THE TIED CARD OF 'laws.FnJSWrong'. -/
def fnJSWrongCard : Claim7 := { stood := { row := fnJSWrongRow, standIns := [], harness := (true, "2e7c9ff87a5e64a7b979f2c7f2ef070ceb8ba5df5714f711d97610625146eaa4"), looks := false }, kinds := [], alts := [], laidByText := true, laidKinds := [.data], laidTests := true, laidLooks := .later }
def FnJSWrongCardSaid : Prop := Claim7.holds Tryd.pinned (.plain (OpenSpec.ofChange fnJSWrongSpec)) fnJSWrongCard

/-- THE TIED CARD OF 'laws.FnJSBlanks'. -/
def fnJSBlanksCard : Claim7 := { stood := { row := fnJSBlanksRow, standIns := [], harness := (true, "2e7c9ff87a5e64a7b979f2c7f2ef070ceb8ba5df5714f711d97610625146eaa4"), looks := false }, kinds := [], alts := [], laidByText := true, laidKinds := [.data], laidTests := true, laidLooks := .later }
def FnJSBlanksCardSaid : Prop := Claim7.holds Tryd.pinned (.plain (OpenSpec.ofChange fnJSBlanksSpec)) fnJSBlanksCard

/-- THE TIED CARD OF 'laws.FnJSTokens'. -/
def fnJSTokensCard : Claim7 := { stood := { row := fnJSTokensRow, standIns := [], harness := (true, "2e7c9ff87a5e64a7b979f2c7f2ef070ceb8ba5df5714f711d97610625146eaa4"), looks := false }, kinds := [], alts := [], laidByText := true, laidKinds := [.data], laidTests := true, laidLooks := .later }
def FnJSTokensCardSaid : Prop := Claim7.holds Tryd.pinned (.plain (OpenSpec.ofChange fnJSTokensSpec)) fnJSTokensCard

/-- THE TIED CARD OF 'laws.FnJSRaws'. -/
def fnJSRawsCard : Claim7 := { stood := { row := fnJSRawsRow, standIns := [], harness := (true, "2e7c9ff87a5e64a7b979f2c7f2ef070ceb8ba5df5714f711d97610625146eaa4"), looks := false }, kinds := [], alts := [], laidByText := true, laidKinds := [.data], laidTests := true, laidLooks := .later }
def FnJSRawsCardSaid : Prop := Claim7.holds Tryd.pinned (.plain (OpenSpec.ofChange fnJSRawsSpec)) fnJSRawsCard

/-- THE TIED CARD OF 'laws.FnJSAgain'. -/
def fnJSAgainCard : Claim7 := { stood := { row := fnJSAgainRow, standIns := [], harness := (true, "2e7c9ff87a5e64a7b979f2c7f2ef070ceb8ba5df5714f711d97610625146eaa4"), looks := false }, kinds := [], alts := [], laidByText := true, laidKinds := [.data], laidTests := true, laidLooks := .later }
def FnJSAgainCardSaid : Prop := Claim7.holds Tryd.pinned (.plain (OpenSpec.ofChange fnJSAgainSpec)) fnJSAgainCard

/-- THE TIED CARD OF 'laws.FnJSPlain'. -/
def fnJSPlainCard : Claim7 := { stood := { row := fnJSPlainRow, standIns := [], harness := (true, "2e7c9ff87a5e64a7b979f2c7f2ef070ceb8ba5df5714f711d97610625146eaa4"), looks := false }, kinds := [], alts := [], laidByText := true, laidKinds := [.data], laidTests := true, laidLooks := .later }
def FnJSPlainCardSaid : Prop := Claim7.holds Tryd.pinned (.plain (OpenSpec.ofChange fnJSPlainSpec)) fnJSPlainCard

/-- THE TIED CARD OF 'laws.FnJSLess'. -/
def fnJSLessCard : Claim7 := { stood := { row := fnJSLessRow, standIns := [], harness := (true, "2e7c9ff87a5e64a7b979f2c7f2ef070ceb8ba5df5714f711d97610625146eaa4"), looks := false }, kinds := [], alts := [], laidByText := true, laidKinds := [.data], laidTests := true, laidLooks := .later }
def FnJSLessCardSaid : Prop := Claim7.holds Tryd.pinned (.plain (OpenSpec.ofChange fnJSLessSpec)) fnJSLessCard

/-- THE TIED CARD OF 'laws.FnJSTexts'. -/
def fnJSTextsCard : Claim7 := { stood := { row := fnJSTextsRow, standIns := [], harness := (true, "2e7c9ff87a5e64a7b979f2c7f2ef070ceb8ba5df5714f711d97610625146eaa4"), looks := false }, kinds := [], alts := [], laidByText := true, laidKinds := [.data], laidTests := true, laidLooks := .later }
def FnJSTextsCardSaid : Prop := Claim7.holds Tryd.pinned (.plain (OpenSpec.ofChange fnJSTextsSpec)) fnJSTextsCard

/-- THE TIED CARD OF 'laws.FnJSParsed'. -/
def fnJSParsedCard : Claim7 := { stood := { row := fnJSParsedRow, standIns := [], harness := (true, "2e7c9ff87a5e64a7b979f2c7f2ef070ceb8ba5df5714f711d97610625146eaa4"), looks := false }, kinds := [], alts := [], laidByText := true, laidKinds := [.data, .data, .pinned], laidTests := true, laidLooks := .later }
def FnJSParsedCardSaid : Prop := Claim7.holds Tryd.pinned (.plain (OpenSpec.ofChange fnJSParsedSpec)) fnJSParsedCard

/-- THE TIED CARD OF 'laws.FnJSInts'. -/
def fnJSIntsCard : Claim7 := { stood := { row := fnJSIntsRow, standIns := [], harness := (true, "2e7c9ff87a5e64a7b979f2c7f2ef070ceb8ba5df5714f711d97610625146eaa4"), looks := false }, kinds := [], alts := [], laidByText := true, laidKinds := [.data, .data, .data], laidTests := true, laidLooks := .later }
def FnJSIntsCardSaid : Prop := Claim7.holds Tryd.pinned (.plain (OpenSpec.ofChange fnJSIntsSpec)) fnJSIntsCard

/-- THE SECOND FORM's CARD OF 'laws.FnJSClosed'. -/
def fnJSClosedUptoCard : Claim7 := { stood := { row := fnJSClosedUptoRow, standIns := [], harness := (true, "2e7c9ff87a5e64a7b979f2c7f2ef070ceb8ba5df5714f711d97610625146eaa4"), looks := false }, kinds := [], alts := [], laidByText := true, laidKinds := [.data], laidTests := true, laidLooks := .later }
def FnJSClosedUptoCardSaid : Prop := Claim7.holds Tryd.pinned (.plain (OpenSpec.upto fnJSClosedSpec)) fnJSClosedUptoCard

/-- THE SECOND FORM's CARD OF 'laws.FnJSSmall'. -/
def fnJSSmallUptoCard : Claim7 := { stood := { row := fnJSSmallUptoRow, standIns := [], harness := (true, "2e7c9ff87a5e64a7b979f2c7f2ef070ceb8ba5df5714f711d97610625146eaa4"), looks := false }, kinds := [], alts := [], laidByText := true, laidKinds := [.data], laidTests := true, laidLooks := .later }
def FnJSSmallUptoCardSaid : Prop := Claim7.holds Tryd.pinned (.plain (OpenSpec.upto fnJSSmallSpec)) fnJSSmallUptoCard

/-- THE SECOND FORM's CARD OF 'laws.FnJSStart'. -/
def fnJSStartUptoCard : Claim7 := { stood := { row := fnJSStartUptoRow, standIns := [], harness := (true, "2e7c9ff87a5e64a7b979f2c7f2ef070ceb8ba5df5714f711d97610625146eaa4"), looks := false }, kinds := [], alts := [], laidByText := true, laidKinds := [.data], laidTests := true, laidLooks := .later }
def FnJSStartUptoCardSaid : Prop := Claim7.holds Tryd.pinned (.plain (OpenSpec.upto fnJSStartSpec)) fnJSStartUptoCard

/-- THE SECOND FORM's CARD OF 'laws.FnJSWrong'. -/
def fnJSWrongUptoCard : Claim7 := { stood := { row := fnJSWrongUptoRow, standIns := [], harness := (true, "2e7c9ff87a5e64a7b979f2c7f2ef070ceb8ba5df5714f711d97610625146eaa4"), looks := false }, kinds := [], alts := [], laidByText := true, laidKinds := [.data], laidTests := true, laidLooks := .later }
def FnJSWrongUptoCardSaid : Prop := Claim7.holds Tryd.pinned (.plain (OpenSpec.upto fnJSWrongSpec)) fnJSWrongUptoCard

/-- THE SECOND FORM's CARD OF 'laws.FnJSBlanks'. -/
def fnJSBlanksUptoCard : Claim7 := { stood := { row := fnJSBlanksUptoRow, standIns := [], harness := (true, "2e7c9ff87a5e64a7b979f2c7f2ef070ceb8ba5df5714f711d97610625146eaa4"), looks := false }, kinds := [], alts := [], laidByText := true, laidKinds := [.data], laidTests := true, laidLooks := .later }
def FnJSBlanksUptoCardSaid : Prop := Claim7.holds Tryd.pinned (.plain (OpenSpec.upto fnJSBlanksSpec)) fnJSBlanksUptoCard

/-- THE SECOND FORM's CARD OF 'laws.FnJSTokens'. -/
def fnJSTokensUptoCard : Claim7 := { stood := { row := fnJSTokensUptoRow, standIns := [], harness := (true, "2e7c9ff87a5e64a7b979f2c7f2ef070ceb8ba5df5714f711d97610625146eaa4"), looks := false }, kinds := [], alts := [], laidByText := true, laidKinds := [.data], laidTests := true, laidLooks := .later }
def FnJSTokensUptoCardSaid : Prop := Claim7.holds Tryd.pinned (.plain (OpenSpec.upto fnJSTokensSpec)) fnJSTokensUptoCard

/-- THE SECOND FORM's CARD OF 'laws.FnJSRaws'. -/
def fnJSRawsUptoCard : Claim7 := { stood := { row := fnJSRawsUptoRow, standIns := [], harness := (true, "2e7c9ff87a5e64a7b979f2c7f2ef070ceb8ba5df5714f711d97610625146eaa4"), looks := false }, kinds := [], alts := [], laidByText := true, laidKinds := [.data], laidTests := true, laidLooks := .later }
def FnJSRawsUptoCardSaid : Prop := Claim7.holds Tryd.pinned (.plain (OpenSpec.upto fnJSRawsSpec)) fnJSRawsUptoCard

/-- THE SECOND FORM's CARD OF 'laws.FnJSAgain'. -/
def fnJSAgainUptoCard : Claim7 := { stood := { row := fnJSAgainUptoRow, standIns := [], harness := (true, "2e7c9ff87a5e64a7b979f2c7f2ef070ceb8ba5df5714f711d97610625146eaa4"), looks := false }, kinds := [], alts := [], laidByText := true, laidKinds := [.data], laidTests := true, laidLooks := .later }
def FnJSAgainUptoCardSaid : Prop := Claim7.holds Tryd.pinned (.plain (OpenSpec.upto fnJSAgainSpec)) fnJSAgainUptoCard

/-- THE SECOND FORM's CARD OF 'laws.FnJSPlain'. -/
def fnJSPlainUptoCard : Claim7 := { stood := { row := fnJSPlainUptoRow, standIns := [], harness := (true, "2e7c9ff87a5e64a7b979f2c7f2ef070ceb8ba5df5714f711d97610625146eaa4"), looks := false }, kinds := [], alts := [], laidByText := true, laidKinds := [.data], laidTests := true, laidLooks := .later }
def FnJSPlainUptoCardSaid : Prop := Claim7.holds Tryd.pinned (.plain (OpenSpec.upto fnJSPlainSpec)) fnJSPlainUptoCard

/-- THE SECOND FORM's CARD OF 'laws.FnJSLess'. -/
def fnJSLessUptoCard : Claim7 := { stood := { row := fnJSLessUptoRow, standIns := [], harness := (true, "2e7c9ff87a5e64a7b979f2c7f2ef070ceb8ba5df5714f711d97610625146eaa4"), looks := false }, kinds := [], alts := [], laidByText := true, laidKinds := [.data], laidTests := true, laidLooks := .later }
def FnJSLessUptoCardSaid : Prop := Claim7.holds Tryd.pinned (.plain (OpenSpec.upto fnJSLessSpec)) fnJSLessUptoCard

/-- THE SECOND FORM's CARD OF 'laws.FnJSTexts'. -/
def fnJSTextsUptoCard : Claim7 := { stood := { row := fnJSTextsUptoRow, standIns := [], harness := (true, "2e7c9ff87a5e64a7b979f2c7f2ef070ceb8ba5df5714f711d97610625146eaa4"), looks := false }, kinds := [], alts := [], laidByText := true, laidKinds := [.data], laidTests := true, laidLooks := .later }
def FnJSTextsUptoCardSaid : Prop := Claim7.holds Tryd.pinned (.plain (OpenSpec.upto fnJSTextsSpec)) fnJSTextsUptoCard

/-- THE SECOND FORM's CARD OF 'laws.FnJSParsed'. -/
def fnJSParsedUptoCard : Claim7 := { stood := { row := fnJSParsedUptoRow, standIns := [], harness := (true, "2e7c9ff87a5e64a7b979f2c7f2ef070ceb8ba5df5714f711d97610625146eaa4"), looks := false }, kinds := [], alts := [], laidByText := true, laidKinds := [.data, .data, .pinned], laidTests := true, laidLooks := .later }
def FnJSParsedUptoCardSaid : Prop := Claim7.holds Tryd.pinned (.plain (OpenSpec.upto fnJSParsedSpec)) fnJSParsedUptoCard

/-- THE SECOND FORM's CARD OF 'laws.FnJSInts'. -/
def fnJSIntsUptoCard : Claim7 := { stood := { row := fnJSIntsUptoRow, standIns := [], harness := (true, "2e7c9ff87a5e64a7b979f2c7f2ef070ceb8ba5df5714f711d97610625146eaa4"), looks := false }, kinds := [], alts := [], laidByText := true, laidKinds := [.data, .data, .data], laidTests := true, laidLooks := .later }
def FnJSIntsUptoCardSaid : Prop := Claim7.holds Tryd.pinned (.plain (OpenSpec.upto fnJSIntsSpec)) fnJSIntsUptoCard
end Rows
end Go.Proofs.YtekmminmgjoabaaDoor
