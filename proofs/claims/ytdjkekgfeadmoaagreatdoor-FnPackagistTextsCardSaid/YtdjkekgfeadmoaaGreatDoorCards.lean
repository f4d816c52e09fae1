/-
  DERIVED. GIVEN WITH THE SEED: THE CARDS: each row of YtdjkekgfeadmoaaGreatDoorRows.lean that lists a variable, with what it lists TIED to the program's text (the seventh form; the later family's looks); each row that meets fmt, with fmt's text TOLD by the authors' own Lean function (tested against real Go, not proved from fmt's source: count such statements apart). THE CARD IS WHAT COUNTS. Prove the row's statement (the work); the ties are given (YtdjkekgfeadmoaaGreatDoorTie.lean); close each card by the builder's one call (the guide's Derived/Test/ToyasCard.lean, 'card_holds'). Laid BY PROGRAM, IN A SANDBOX (cutbox-door.mjs). By AI agents, Wed Nov 11 2026. No macro, syntax, notation, axiom, sorry.
-/
import Derived.Test.YtdjkekgfeadmoaaGreatDoorRows
import GoSem.ClaimSeven
namespace Go.Proofs.YtdjkekgfeadmoaaGreatDoor
namespace Rows

/-- THE TIED CARD OF 'laws.FnPackagistTexts'. -/
def fnPackagistTextsCard : Claim7 := { stood := { row := fnPackagistTextsRow, standIns := [], harness := (true, "546f6891707f245593a837fc3b597ffa765407c400a1d0e7da0aab163697eda1"), looks := true }, kinds := [], alts := [], laidByText := true, laidKinds := [.data, .data, .data, .data, .sentinel, .sentinel, .sentinel, .sentinel, .sentinel, .sentinel, .pinned], laidTests := true, laidLooks := .later }
def FnPackagistTextsCardSaid : Prop := Claim7.holds Tryz.pinned (.plain (OpenSpec.ofChange fnPackagistTextsSpec)) fnPackagistTextsCard

/-- THE SECOND FORM's CARD OF 'laws.FnPackagistTexts'. -/
def fnPackagistTextsUptoCard : Claim7 := { stood := { row := fnPackagistTextsUptoRow, standIns := [], harness := (true, "546f6891707f245593a837fc3b597ffa765407c400a1d0e7da0aab163697eda1"), looks := true }, kinds := [], alts := [], laidByText := true, laidKinds := [.data, .data, .data, .data, .sentinel, .sentinel, .sentinel, .sentinel, .sentinel, .sentinel, .pinned], laidTests := true, laidLooks := .later }
def FnPackagistTextsUptoCardSaid : Prop := Claim7.holds Tryz.pinned (.plain (OpenSpec.upto fnPackagistTextsSpec)) fnPackagistTextsUptoCard
end Rows
end Go.Proofs.YtdjkekgfeadmoaaGreatDoor
