/-
  DERIVED. GIVEN WITH THE SEED: THE CARDS: each row of YtapaijpglfmfgaaDoorRows.lean that lists a variable, with what it lists TIED to the program's text (the seventh form; the later family's looks); each row that meets fmt, with fmt's text TOLD by the authors' own Lean function (tested against real Go, not proved from fmt's source: count such statements apart). THE CARD IS WHAT COUNTS. Prove the row's statement (the work); the ties are given (YtapaijpglfmfgaaDoorTie.lean); close each card by the builder's one call (the guide's Derived/Test/ToyasCard.lean, 'card_holds'). Laid BY PROGRAM, IN A SANDBOX (cutbox-door.mjs). By AI agents, Wed Nov 11 2026. No macro, syntax, notation, axiom, sorry.
-/
import Derived.Test.YtapaijpglfmfgaaDoorRows
import GoSem.ClaimSeven
namespace Go.Proofs.YtapaijpglfmfgaaDoor
namespace Rows

/-- THE TIED CARD OF 'laws.FnAlpineBuilt'. -/
def fnAlpineBuiltCard : Claim7 := { stood := { row := fnAlpineBuiltRow, standIns := [], harness := (true, "46379dc6b09a528355b2f004d57983bd6b24165b4999331a91e79f1fdec7bb39"), looks := true }, kinds := [], alts := [], laidByText := true, laidKinds := [.sentinel, .sentinel, .sentinel, .sentinel], laidTests := true, laidLooks := .later }
def FnAlpineBuiltCardSaid : Prop := Claim7.holds Tryd.pinned (.plain (OpenSpec.ofChange fnAlpineBuiltSpec)) fnAlpineBuiltCard

/-- THE TIED CARD OF 'laws.FnAlpineParse'. -/
def fnAlpineParseCard : Claim7 := { stood := { row := fnAlpineParseRow, standIns := [], harness := (true, "46379dc6b09a528355b2f004d57983bd6b24165b4999331a91e79f1fdec7bb39"), looks := true }, kinds := [], alts := [], laidByText := true, laidKinds := [.sentinel, .sentinel, .sentinel, .sentinel], laidTests := true, laidLooks := .later }
def FnAlpineParseCardSaid : Prop := Claim7.holds Tryd.pinned (.plain (OpenSpec.ofChange fnAlpineParseSpec)) fnAlpineParseCard

/-- THE TIED CARD OF 'laws.FnAlpineRest'. -/
def fnAlpineRestCard : Claim7 := { stood := { row := fnAlpineRestRow, standIns := [], harness := (true, "46379dc6b09a528355b2f004d57983bd6b24165b4999331a91e79f1fdec7bb39"), looks := true }, kinds := [], alts := [], laidByText := true, laidKinds := [.sentinel, .sentinel, .sentinel, .sentinel], laidTests := true, laidLooks := .later }
def FnAlpineRestCardSaid : Prop := Claim7.holds Tryd.pinned (.plain (OpenSpec.ofChange fnAlpineRestSpec)) fnAlpineRestCard

/-- THE TIED CARD OF 'laws.FnAlpineNumbers'. -/
def fnAlpineNumbersCard : Claim7 := { stood := { row := fnAlpineNumbersRow, standIns := [], harness := (true, "46379dc6b09a528355b2f004d57983bd6b24165b4999331a91e79f1fdec7bb39"), looks := true }, kinds := [], alts := [], laidByText := true, laidKinds := [.sentinel, .sentinel, .sentinel, .sentinel], laidTests := true, laidLooks := .later }
def FnAlpineNumbersCardSaid : Prop := Claim7.holds Tryd.pinned (.plain (OpenSpec.ofChange fnAlpineNumbersSpec)) fnAlpineNumbersCard

/-- THE TIED CARD OF 'laws.FnAlpineOrder'. -/
def fnAlpineOrderCard : Claim7 := { stood := { row := fnAlpineOrderRow, standIns := [], harness := (true, "46379dc6b09a528355b2f004d57983bd6b24165b4999331a91e79f1fdec7bb39"), looks := true }, kinds := [], alts := [], laidByText := true, laidKinds := [.sentinel, .sentinel, .sentinel, .sentinel], laidTests := true, laidLooks := .later }
def FnAlpineOrderCardSaid : Prop := Claim7.holds Tryd.pinned (.plain (OpenSpec.ofChange fnAlpineOrderSpec)) fnAlpineOrderCard

/-- THE TIED CARD OF 'laws.FnAlpineStages'. -/
def fnAlpineStagesCard : Claim7 := { stood := { row := fnAlpineStagesRow, standIns := [], harness := (true, "46379dc6b09a528355b2f004d57983bd6b24165b4999331a91e79f1fdec7bb39"), looks := true }, kinds := [], alts := [], laidByText := true, laidKinds := [.sentinel, .sentinel, .sentinel, .sentinel], laidTests := true, laidLooks := .later }
def FnAlpineStagesCardSaid : Prop := Claim7.holds Tryd.pinned (.plain (OpenSpec.ofChange fnAlpineStagesSpec)) fnAlpineStagesCard

/-- THE SECOND FORM's CARD OF 'laws.FnAlpineBuilt'. -/
def fnAlpineBuiltUptoCard : Claim7 := { stood := { row := fnAlpineBuiltUptoRow, standIns := [], harness := (true, "46379dc6b09a528355b2f004d57983bd6b24165b4999331a91e79f1fdec7bb39"), looks := true }, kinds := [], alts := [], laidByText := true, laidKinds := [.sentinel, .sentinel, .sentinel, .sentinel], laidTests := true, laidLooks := .later }
def FnAlpineBuiltUptoCardSaid : Prop := Claim7.holds Tryd.pinned (.plain (OpenSpec.upto fnAlpineBuiltSpec)) fnAlpineBuiltUptoCard

/-- THE SECOND FORM's CARD OF 'laws.FnAlpineParse'. -/
def fnAlpineParseUptoCard : Claim7 := { stood := { row := fnAlpineParseUptoRow, standIns := [], harness := (true, "46379dc6b09a528355b2f004d57983bd6b24165b4999331a91e79f1fdec7bb39"), looks := true }, kinds := [], alts := [], laidByText := true, laidKinds := [.sentinel, .sentinel, .sentinel, .sentinel], laidTests := true, laidLooks := .later }
def FnAlpineParseUptoCardSaid : Prop := Claim7.holds Tryd.pinned (.plain (OpenSpec.upto fnAlpineParseSpec)) fnAlpineParseUptoCard

/-- THE SECOND FORM's CARD OF 'laws.FnAlpineRest'. -/
def fnAlpineRestUptoCard : Claim7 := { stood := { row := fnAlpineRestUptoRow, standIns := [], harness := (true, "46379dc6b09a528355b2f004d57983bd6b24165b4999331a91e79f1fdec7bb39"), looks := true }, kinds := [], alts := [], laidByText := true, laidKinds := [.sentinel, .sentinel, .sentinel, .sentinel], laidTests := true, laidLooks := .later }
def FnAlpineRestUptoCardSaid : Prop := Claim7.holds Tryd.pinned (.plain (OpenSpec.upto fnAlpineRestSpec)) fnAlpineRestUptoCard

/-- THE SECOND FORM's CARD OF 'laws.FnAlpineNumbers'. -/
def fnAlpineNumbersUptoCard : Claim7 := { stood := { row := fnAlpineNumbersUptoRow, standIns := [], harness := (true, "46379dc6b09a528355b2f004d57983bd6b24165b4999331a91e79f1fdec7bb39"), looks := true }, kinds := [], alts := [], laidByText := true, laidKinds := [.sentinel, .sentinel, .sentinel, .sentinel], laidTests := true, laidLooks := .later }
def FnAlpineNumbersUptoCardSaid : Prop := Claim7.holds Tryd.pinned (.plain (OpenSpec.upto fnAlpineNumbersSpec)) fnAlpineNumbersUptoCard

/-- THE SECOND FORM's CARD OF 'laws.FnAlpineOrder'. -/
def fnAlpineOrderUptoCard : Claim7 := { stood := { row := fnAlpineOrderUptoRow, standIns := [], harness := (true, "46379dc6b09a528355b2f004d57983bd6b24165b4999331a91e79f1fdec7bb39"), looks := true }, kinds := [], alts := [], laidByText := true, laidKinds := [.sentinel, .sentinel, .sentinel, .sentinel], laidTests := true, laidLooks := .later }
def FnAlpineOrderUptoCardSaid : Prop := Claim7.holds Tryd.pinned (.plain (OpenSpec.upto fnAlpineOrderSpec)) fnAlpineOrderUptoCard

/-- THE SECOND FORM's CARD OF 'laws.FnAlpineStages'. -/
def fnAlpineStagesUptoCard : Claim7 := { stood := { row := fnAlpineStagesUptoRow, standIns := [], harness := (true, "46379dc6b09a528355b2f004d57983bd6b24165b4999331a91e79f1fdec7bb39"), looks := true }, kinds := [], alts := [], laidByText := true, laidKinds := [.sentinel, .sentinel, .sentinel, .sentinel], laidTests := true, laidLooks := .later }
def FnAlpineStagesUptoCardSaid : Prop := Claim7.holds Tryd.pinned (.plain (OpenSpec.upto fnAlpineStagesSpec)) fnAlpineStagesUptoCard
end Rows
end Go.Proofs.YtapaijpglfmfgaaDoor
