/-
  DERIVED. GIVEN WITH THE SEED: THE CARDS: each row of YtapaijpglfmfgaaGreatDoorRows.lean that lists a variable, with what it lists TIED to the program's text (the seventh form; the later family's looks); each row that meets fmt, with fmt's text TOLD by the authors' own Lean function (tested against real Go, not proved from fmt's source: count such statements apart). THE CARD IS WHAT COUNTS. Prove the row's statement (the work); the ties are given (YtapaijpglfmfgaaGreatDoorTie.lean); close each card by the builder's one call (the guide's Derived/Test/ToyasCard.lean, 'card_holds'). Laid BY PROGRAM, IN A SANDBOX (cutbox-door.mjs). By AI agents, Wed Nov 11 2026. No macro, syntax, notation, axiom, sorry.
-/
import Derived.Test.YtapaijpglfmfgaaGreatDoorRows
import GoSem.ClaimSeven
namespace Go.Proofs.YtapaijpglfmfgaaGreatDoor
namespace Rows

/-- THE TIED CARD OF 'laws.FnAlpineBuiltPair'. -/
def fnAlpineBuiltPairCard : Claim7 := { stood := { row := fnAlpineBuiltPairRow, standIns := [], harness := (true, "9648074d7f88e7857764760621c0309e4e71c2765b875aa6daf4dc76eacff6bd"), looks := true }, kinds := [], alts := [], laidByText := true, laidKinds := [.sentinel, .sentinel, .sentinel, .sentinel], laidTests := true, laidLooks := .later }
def FnAlpineBuiltPairCardSaid : Prop := Claim7.holds Tryz.pinned (.plain (OpenSpec.ofChange fnAlpineBuiltPairSpec)) fnAlpineBuiltPairCard

/-- THE TIED CARD OF 'laws.FnAlpineBack'. -/
def fnAlpineBackCard : Claim7 := { stood := { row := fnAlpineBackRow, standIns := [], harness := (true, "9648074d7f88e7857764760621c0309e4e71c2765b875aa6daf4dc76eacff6bd"), looks := true }, kinds := [], alts := [], laidByText := true, laidKinds := [.sentinel, .sentinel, .sentinel, .sentinel], laidTests := true, laidLooks := .later }
def FnAlpineBackCardSaid : Prop := Claim7.holds Tryz.pinned (.plain (OpenSpec.ofChange fnAlpineBackSpec)) fnAlpineBackCard

/-- THE TIED CARD OF 'laws.FnAlpineTexts'. -/
def fnAlpineTextsCard : Claim7 := { stood := { row := fnAlpineTextsRow, standIns := [], harness := (true, "9648074d7f88e7857764760621c0309e4e71c2765b875aa6daf4dc76eacff6bd"), looks := true }, kinds := [], alts := [], laidByText := true, laidKinds := [.sentinel, .sentinel, .sentinel, .sentinel], laidTests := true, laidLooks := .later }
def FnAlpineTextsCardSaid : Prop := Claim7.holds Tryz.pinned (.plain (OpenSpec.ofChange fnAlpineTextsSpec)) fnAlpineTextsCard

/-- THE SECOND FORM's CARD OF 'laws.FnAlpineBuiltPair'. -/
def fnAlpineBuiltPairUptoCard : Claim7 := { stood := { row := fnAlpineBuiltPairUptoRow, standIns := [], harness := (true, "9648074d7f88e7857764760621c0309e4e71c2765b875aa6daf4dc76eacff6bd"), looks := true }, kinds := [], alts := [], laidByText := true, laidKinds := [.sentinel, .sentinel, .sentinel, .sentinel], laidTests := true, laidLooks := .later }
def FnAlpineBuiltPairUptoCardSaid : Prop := Claim7.holds Tryz.pinned (.plain (OpenSpec.upto fnAlpineBuiltPairSpec)) fnAlpineBuiltPairUptoCard

/-- THE SECOND FORM's CARD OF 'laws.FnAlpineBack'. -/
def fnAlpineBackUptoCard : Claim7 := { stood := { row := fnAlpineBackUptoRow, standIns := [], harness := (true, "9648074d7f88e7857764760621c0309e4e71c2765b875aa6daf4dc76eacff6bd"), looks := true }, kinds := [], alts := [], laidByText := true, laidKinds := [.sentinel, .sentinel, .sentinel, .sentinel], laidTests := true, laidLooks := .later }
def FnAlpineBackUptoCardSaid : Prop := Claim7.holds Tryz.pinned (.plain (OpenSpec.upto fnAlpineBackSpec)) fnAlpineBackUptoCard

/-- THE SECOND FORM's CARD OF 'laws.FnAlpineTexts'. -/
def fnAlpineTextsUptoCard : Claim7 := { stood := { row := fnAlpineTextsUptoRow, standIns := [], harness := (true, "9648074d7f88e7857764760621c0309e4e71c2765b875aa6daf4dc76eacff6bd"), looks := true }, kinds := [], alts := [], laidByText := true, laidKinds := [.sentinel, .sentinel, .sentinel, .sentinel], laidTests := true, laidLooks := .later }
def FnAlpineTextsUptoCardSaid : Prop := Claim7.holds Tryz.pinned (.plain (OpenSpec.upto fnAlpineTextsSpec)) fnAlpineTextsUptoCard
end Rows
end Go.Proofs.YtapaijpglfmfgaaGreatDoor
