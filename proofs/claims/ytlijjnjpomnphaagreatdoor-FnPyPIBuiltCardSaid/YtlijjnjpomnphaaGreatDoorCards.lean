/-
  DERIVED. GIVEN WITH THE SEED: THE CARDS: each row of YtlijjnjpomnphaaGreatDoorRows.lean that lists a variable, with what it lists TIED to the program's text (the seventh form; the later family's looks); each row that meets fmt, with fmt's text TOLD by the authors' own Lean function (tested against real Go, not proved from fmt's source: count such statements apart). THE CARD IS WHAT COUNTS. Prove the row's statement (the work); the ties are given (YtlijjnjpomnphaaGreatDoorTie.lean); close each card by the builder's one call (the guide's Derived/Test/ToyasCard.lean, 'card_holds'). Laid BY PROGRAM, IN A SANDBOX (cutbox-door.mjs). By AI agents, Wed Nov 11 2026. No macro, syntax, notation, axiom, sorry.
-/
import Derived.Test.YtlijjnjpomnphaaGreatDoorRows
import GoSem.ClaimSeven
namespace Go.Proofs.YtlijjnjpomnphaaGreatDoor
namespace Rows

/-- THE TIED CARD OF 'laws.FnPyPIBuilt'. -/
def fnPyPIBuiltCard : Claim7 := { stood := { row := fnPyPIBuiltRow, standIns := [], harness := (true, "c1839dc6ed977a96a7d8e8be170e8a0c03af9f1b3eb29a75f593625c02d91e57"), looks := true }, kinds := [], alts := [], laidByText := true, laidKinds := [.data, .sentinel, .sentinel, .sentinel, .sentinel, .pinned, .pinned], laidTests := true, laidLooks := .later }
def FnPyPIBuiltCardSaid : Prop := Claim7.holds Tryz.pinned (.plain (OpenSpec.ofChange fnPyPIBuiltSpec)) fnPyPIBuiltCard

/-- THE TIED CARD OF 'laws.FnPyPIParse'. -/
def fnPyPIParseCard : Claim7 := { stood := { row := fnPyPIParseRow, standIns := [], harness := (true, "c1839dc6ed977a96a7d8e8be170e8a0c03af9f1b3eb29a75f593625c02d91e57"), looks := true }, kinds := [], alts := [], laidByText := true, laidKinds := [.data, .sentinel, .sentinel, .sentinel, .sentinel, .pinned, .pinned], laidTests := true, laidLooks := .later }
def FnPyPIParseCardSaid : Prop := Claim7.holds Tryz.pinned (.plain (OpenSpec.ofChange fnPyPIParseSpec)) fnPyPIParseCard

/-- THE TIED CARD OF 'laws.FnPyPISpellings'. -/
def fnPyPISpellingsCard : Claim7 := { stood := { row := fnPyPISpellingsRow, standIns := [], harness := (true, "c1839dc6ed977a96a7d8e8be170e8a0c03af9f1b3eb29a75f593625c02d91e57"), looks := true }, kinds := [], alts := [], laidByText := true, laidKinds := [.data, .sentinel, .sentinel, .sentinel, .sentinel, .pinned, .pinned], laidTests := true, laidLooks := .later }
def FnPyPISpellingsCardSaid : Prop := Claim7.holds Tryz.pinned (.plain (OpenSpec.ofChange fnPyPISpellingsSpec)) fnPyPISpellingsCard

/-- THE TIED CARD OF 'laws.FnPyPINumbers'. -/
def fnPyPINumbersCard : Claim7 := { stood := { row := fnPyPINumbersRow, standIns := [], harness := (true, "c1839dc6ed977a96a7d8e8be170e8a0c03af9f1b3eb29a75f593625c02d91e57"), looks := true }, kinds := [], alts := [], laidByText := true, laidKinds := [.data, .sentinel, .sentinel, .sentinel, .sentinel, .pinned, .pinned], laidTests := true, laidLooks := .later }
def FnPyPINumbersCardSaid : Prop := Claim7.holds Tryz.pinned (.plain (OpenSpec.ofChange fnPyPINumbersSpec)) fnPyPINumbersCard

/-- THE TIED CARD OF 'laws.FnPyPIOrder'. -/
def fnPyPIOrderCard : Claim7 := { stood := { row := fnPyPIOrderRow, standIns := [], harness := (true, "c1839dc6ed977a96a7d8e8be170e8a0c03af9f1b3eb29a75f593625c02d91e57"), looks := true }, kinds := [], alts := [], laidByText := true, laidKinds := [.data, .sentinel, .sentinel, .sentinel, .sentinel, .pinned, .pinned], laidTests := true, laidLooks := .later }
def FnPyPIOrderCardSaid : Prop := Claim7.holds Tryz.pinned (.plain (OpenSpec.ofChange fnPyPIOrderSpec)) fnPyPIOrderCard

/-- THE TIED CARD OF 'laws.FnPyPISorted'. -/
def fnPyPISortedCard : Claim7 := { stood := { row := fnPyPISortedRow, standIns := [], harness := (true, "c1839dc6ed977a96a7d8e8be170e8a0c03af9f1b3eb29a75f593625c02d91e57"), looks := true }, kinds := [], alts := [], laidByText := true, laidKinds := [.data, .sentinel, .sentinel, .sentinel, .sentinel, .pinned, .pinned], laidTests := true, laidLooks := .later }
def FnPyPISortedCardSaid : Prop := Claim7.holds Tryz.pinned (.plain (OpenSpec.ofChange fnPyPISortedSpec)) fnPyPISortedCard

/-- THE TIED CARD OF 'laws.FnPyPIStages'. -/
def fnPyPIStagesCard : Claim7 := { stood := { row := fnPyPIStagesRow, standIns := [], harness := (true, "c1839dc6ed977a96a7d8e8be170e8a0c03af9f1b3eb29a75f593625c02d91e57"), looks := true }, kinds := [], alts := [], laidByText := true, laidKinds := [.data, .sentinel, .sentinel, .sentinel, .sentinel, .pinned, .pinned], laidTests := true, laidLooks := .later }
def FnPyPIStagesCardSaid : Prop := Claim7.holds Tryz.pinned (.plain (OpenSpec.ofChange fnPyPIStagesSpec)) fnPyPIStagesCard

/-- THE TIED CARD OF 'laws.FnPyPILegacy'. -/
def fnPyPILegacyCard : Claim7 := { stood := { row := fnPyPILegacyRow, standIns := [], harness := (true, "c1839dc6ed977a96a7d8e8be170e8a0c03af9f1b3eb29a75f593625c02d91e57"), looks := true }, kinds := [], alts := [], laidByText := true, laidKinds := [.data, .sentinel, .sentinel, .sentinel, .sentinel, .pinned, .pinned], laidTests := true, laidLooks := .later }
def FnPyPILegacyCardSaid : Prop := Claim7.holds Tryz.pinned (.plain (OpenSpec.ofChange fnPyPILegacySpec)) fnPyPILegacyCard

/-- THE TIED CARD OF 'laws.FnPyPIBack'. -/
def fnPyPIBackCard : Claim7 := { stood := { row := fnPyPIBackRow, standIns := [], harness := (true, "c1839dc6ed977a96a7d8e8be170e8a0c03af9f1b3eb29a75f593625c02d91e57"), looks := true }, kinds := [], alts := [], laidByText := true, laidKinds := [.data, .sentinel, .sentinel, .sentinel, .sentinel, .pinned, .pinned], laidTests := true, laidLooks := .later }
def FnPyPIBackCardSaid : Prop := Claim7.holds Tryz.pinned (.plain (OpenSpec.ofChange fnPyPIBackSpec)) fnPyPIBackCard

/-- THE TIED CARD OF 'laws.FnPyPIBuiltPair'. -/
def fnPyPIBuiltPairCard : Claim7 := { stood := { row := fnPyPIBuiltPairRow, standIns := [], harness := (true, "c1839dc6ed977a96a7d8e8be170e8a0c03af9f1b3eb29a75f593625c02d91e57"), looks := true }, kinds := [], alts := [], laidByText := true, laidKinds := [.data, .sentinel, .sentinel, .sentinel, .sentinel, .pinned, .pinned], laidTests := true, laidLooks := .later }
def FnPyPIBuiltPairCardSaid : Prop := Claim7.holds Tryz.pinned (.plain (OpenSpec.ofChange fnPyPIBuiltPairSpec)) fnPyPIBuiltPairCard

/-- THE TIED CARD OF 'laws.FnPyPITexts'. -/
def fnPyPITextsCard : Claim7 := { stood := { row := fnPyPITextsRow, standIns := [], harness := (true, "c1839dc6ed977a96a7d8e8be170e8a0c03af9f1b3eb29a75f593625c02d91e57"), looks := true }, kinds := [], alts := [], laidByText := true, laidKinds := [.data, .sentinel, .sentinel, .sentinel, .sentinel, .pinned, .pinned], laidTests := true, laidLooks := .later }
def FnPyPITextsCardSaid : Prop := Claim7.holds Tryz.pinned (.plain (OpenSpec.ofChange fnPyPITextsSpec)) fnPyPITextsCard

/-- THE SECOND FORM's CARD OF 'laws.FnPyPIBuilt'. -/
def fnPyPIBuiltUptoCard : Claim7 := { stood := { row := fnPyPIBuiltUptoRow, standIns := [], harness := (true, "c1839dc6ed977a96a7d8e8be170e8a0c03af9f1b3eb29a75f593625c02d91e57"), looks := true }, kinds := [], alts := [], laidByText := true, laidKinds := [.data, .sentinel, .sentinel, .sentinel, .sentinel, .pinned, .pinned], laidTests := true, laidLooks := .later }
def FnPyPIBuiltUptoCardSaid : Prop := Claim7.holds Tryz.pinned (.plain (OpenSpec.upto fnPyPIBuiltSpec)) fnPyPIBuiltUptoCard

/-- THE SECOND FORM's CARD OF 'laws.FnPyPIParse'. -/
def fnPyPIParseUptoCard : Claim7 := { stood := { row := fnPyPIParseUptoRow, standIns := [], harness := (true, "c1839dc6ed977a96a7d8e8be170e8a0c03af9f1b3eb29a75f593625c02d91e57"), looks := true }, kinds := [], alts := [], laidByText := true, laidKinds := [.data, .sentinel, .sentinel, .sentinel, .sentinel, .pinned, .pinned], laidTests := true, laidLooks := .later }
def FnPyPIParseUptoCardSaid : Prop := Claim7.holds Tryz.pinned (.plain (OpenSpec.upto fnPyPIParseSpec)) fnPyPIParseUptoCard

/-- THE SECOND FORM's CARD OF 'laws.FnPyPISpellings'. -/
def fnPyPISpellingsUptoCard : Claim7 := { stood := { row := fnPyPISpellingsUptoRow, standIns := [], harness := (true, "c1839dc6ed977a96a7d8e8be170e8a0c03af9f1b3eb29a75f593625c02d91e57"), looks := true }, kinds := [], alts := [], laidByText := true, laidKinds := [.data, .sentinel, .sentinel, .sentinel, .sentinel, .pinned, .pinned], laidTests := true, laidLooks := .later }
def FnPyPISpellingsUptoCardSaid : Prop := Claim7.holds Tryz.pinned (.plain (OpenSpec.upto fnPyPISpellingsSpec)) fnPyPISpellingsUptoCard

/-- THE SECOND FORM's CARD OF 'laws.FnPyPINumbers'. -/
def fnPyPINumbersUptoCard : Claim7 := { stood := { row := fnPyPINumbersUptoRow, standIns := [], harness := (true, "c1839dc6ed977a96a7d8e8be170e8a0c03af9f1b3eb29a75f593625c02d91e57"), looks := true }, kinds := [], alts := [], laidByText := true, laidKinds := [.data, .sentinel, .sentinel, .sentinel, .sentinel, .pinned, .pinned], laidTests := true, laidLooks := .later }
def FnPyPINumbersUptoCardSaid : Prop := Claim7.holds Tryz.pinned (.plain (OpenSpec.upto fnPyPINumbersSpec)) fnPyPINumbersUptoCard

/-- THE SECOND FORM's CARD OF 'laws.FnPyPIOrder'. -/
def fnPyPIOrderUptoCard : Claim7 := { stood := { row := fnPyPIOrderUptoRow, standIns := [], harness := (true, "c1839dc6ed977a96a7d8e8be170e8a0c03af9f1b3eb29a75f593625c02d91e57"), looks := true }, kinds := [], alts := [], laidByText := true, laidKinds := [.data, .sentinel, .sentinel, .sentinel, .sentinel, .pinned, .pinned], laidTests := true, laidLooks := .later }
def FnPyPIOrderUptoCardSaid : Prop := Claim7.holds Tryz.pinned (.plain (OpenSpec.upto fnPyPIOrderSpec)) fnPyPIOrderUptoCard

/-- THE SECOND FORM's CARD OF 'laws.FnPyPISorted'. -/
def fnPyPISortedUptoCard : Claim7 := { stood := { row := fnPyPISortedUptoRow, standIns := [], harness := (true, "c1839dc6ed977a96a7d8e8be170e8a0c03af9f1b3eb29a75f593625c02d91e57"), looks := true }, kinds := [], alts := [], laidByText := true, laidKinds := [.data, .sentinel, .sentinel, .sentinel, .sentinel, .pinned, .pinned], laidTests := true, laidLooks := .later }
def FnPyPISortedUptoCardSaid : Prop := Claim7.holds Tryz.pinned (.plain (OpenSpec.upto fnPyPISortedSpec)) fnPyPISortedUptoCard

/-- THE SECOND FORM's CARD OF 'laws.FnPyPIStages'. -/
def fnPyPIStagesUptoCard : Claim7 := { stood := { row := fnPyPIStagesUptoRow, standIns := [], harness := (true, "c1839dc6ed977a96a7d8e8be170e8a0c03af9f1b3eb29a75f593625c02d91e57"), looks := true }, kinds := [], alts := [], laidByText := true, laidKinds := [.data, .sentinel, .sentinel, .sentinel, .sentinel, .pinned, .pinned], laidTests := true, laidLooks := .later }
def FnPyPIStagesUptoCardSaid : Prop := Claim7.holds Tryz.pinned (.plain (OpenSpec.upto fnPyPIStagesSpec)) fnPyPIStagesUptoCard

/-- THE SECOND FORM's CARD OF 'laws.FnPyPILegacy'. -/
def fnPyPILegacyUptoCard : Claim7 := { stood := { row := fnPyPILegacyUptoRow, standIns := [], harness := (true, "c1839dc6ed977a96a7d8e8be170e8a0c03af9f1b3eb29a75f593625c02d91e57"), looks := true }, kinds := [], alts := [], laidByText := true, laidKinds := [.data, .sentinel, .sentinel, .sentinel, .sentinel, .pinned, .pinned], laidTests := true, laidLooks := .later }
def FnPyPILegacyUptoCardSaid : Prop := Claim7.holds Tryz.pinned (.plain (OpenSpec.upto fnPyPILegacySpec)) fnPyPILegacyUptoCard

/-- THE SECOND FORM's CARD OF 'laws.FnPyPIBack'. -/
def fnPyPIBackUptoCard : Claim7 := { stood := { row := fnPyPIBackUptoRow, standIns := [], harness := (true, "c1839dc6ed977a96a7d8e8be170e8a0c03af9f1b3eb29a75f593625c02d91e57"), looks := true }, kinds := [], alts := [], laidByText := true, laidKinds := [.data, .sentinel, .sentinel, .sentinel, .sentinel, .pinned, .pinned], laidTests := true, laidLooks := .later }
def FnPyPIBackUptoCardSaid : Prop := Claim7.holds Tryz.pinned (.plain (OpenSpec.upto fnPyPIBackSpec)) fnPyPIBackUptoCard

/-- THE SECOND FORM's CARD OF 'laws.FnPyPIBuiltPair'. -/
def fnPyPIBuiltPairUptoCard : Claim7 := { stood := { row := fnPyPIBuiltPairUptoRow, standIns := [], harness := (true, "c1839dc6ed977a96a7d8e8be170e8a0c03af9f1b3eb29a75f593625c02d91e57"), looks := true }, kinds := [], alts := [], laidByText := true, laidKinds := [.data, .sentinel, .sentinel, .sentinel, .sentinel, .pinned, .pinned], laidTests := true, laidLooks := .later }
def FnPyPIBuiltPairUptoCardSaid : Prop := Claim7.holds Tryz.pinned (.plain (OpenSpec.upto fnPyPIBuiltPairSpec)) fnPyPIBuiltPairUptoCard

/-- THE SECOND FORM's CARD OF 'laws.FnPyPITexts'. -/
def fnPyPITextsUptoCard : Claim7 := { stood := { row := fnPyPITextsUptoRow, standIns := [], harness := (true, "c1839dc6ed977a96a7d8e8be170e8a0c03af9f1b3eb29a75f593625c02d91e57"), looks := true }, kinds := [], alts := [], laidByText := true, laidKinds := [.data, .sentinel, .sentinel, .sentinel, .sentinel, .pinned, .pinned], laidTests := true, laidLooks := .later }
def FnPyPITextsUptoCardSaid : Prop := Claim7.holds Tryz.pinned (.plain (OpenSpec.upto fnPyPITextsSpec)) fnPyPITextsUptoCard
end Rows
end Go.Proofs.YtlijjnjpomnphaaGreatDoor
