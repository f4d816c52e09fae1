/-
  DERIVED. GIVEN WITH THE SEED: THE CARDS: each row of YtdjkekgfeadmoaaDoorRows.lean that lists a variable, with what it lists TIED to the program's text (the seventh form; the later family's looks); each row that meets fmt, with fmt's text TOLD by the authors' own Lean function (tested against real Go, not proved from fmt's source: count such statements apart). THE CARD IS WHAT COUNTS. Prove the row's statement (the work); the ties are given (YtdjkekgfeadmoaaDoorTie.lean); close each card by the builder's one call (the guide's Derived/Test/ToyasCard.lean, 'card_holds'). Laid BY PROGRAM, IN A SANDBOX (cutbox-door.mjs). By AI agents, Wed Nov 11 2026. No macro, syntax, notation, axiom, sorry.
-/
import Derived.Test.YtdjkekgfeadmoaaDoorRows
import GoSem.ClaimSeven
namespace Go.Proofs.YtdjkekgfeadmoaaDoor
namespace Rows

/-- THE TIED CARD OF 'laws.FnPackagistNumbers'. -/
def fnPackagistNumbersCard : Claim7 := { stood := { row := fnPackagistNumbersRow, standIns := [], harness := (true, "02fd868528d195c5a1d83fd29174428a05f6c51d30743917b24bc1ebf91959da"), looks := true }, kinds := [], alts := [], laidByText := true, laidKinds := [.data, .data, .data, .data, .sentinel, .sentinel, .sentinel, .sentinel, .sentinel, .sentinel, .pinned], laidTests := true, laidLooks := .later }
def FnPackagistNumbersCardSaid : Prop := Claim7.holds Tryd.pinned (.plain (OpenSpec.ofChange fnPackagistNumbersSpec)) fnPackagistNumbersCard

/-- THE TIED CARD OF 'laws.FnPackagistStages'. -/
def fnPackagistStagesCard : Claim7 := { stood := { row := fnPackagistStagesRow, standIns := [], harness := (true, "02fd868528d195c5a1d83fd29174428a05f6c51d30743917b24bc1ebf91959da"), looks := true }, kinds := [], alts := [], laidByText := true, laidKinds := [.data, .data, .data, .data, .sentinel, .sentinel, .sentinel, .sentinel, .sentinel, .sentinel, .pinned], laidTests := true, laidLooks := .later }
def FnPackagistStagesCardSaid : Prop := Claim7.holds Tryd.pinned (.plain (OpenSpec.ofChange fnPackagistStagesSpec)) fnPackagistStagesCard

/-- THE TIED CARD OF 'laws.FnPackagistMarks'. -/
def fnPackagistMarksCard : Claim7 := { stood := { row := fnPackagistMarksRow, standIns := [], harness := (true, "02fd868528d195c5a1d83fd29174428a05f6c51d30743917b24bc1ebf91959da"), looks := true }, kinds := [], alts := [], laidByText := true, laidKinds := [.data, .data, .data, .data, .sentinel, .sentinel, .sentinel, .sentinel, .sentinel, .sentinel, .pinned], laidTests := true, laidLooks := .later }
def FnPackagistMarksCardSaid : Prop := Claim7.holds Tryd.pinned (.plain (OpenSpec.ofChange fnPackagistMarksSpec)) fnPackagistMarksCard

/-- THE TIED CARD OF 'laws.FnPackagistPoints'. -/
def fnPackagistPointsCard : Claim7 := { stood := { row := fnPackagistPointsRow, standIns := [], harness := (true, "02fd868528d195c5a1d83fd29174428a05f6c51d30743917b24bc1ebf91959da"), looks := true }, kinds := [], alts := [], laidByText := true, laidKinds := [.data, .data, .data, .data, .sentinel, .sentinel, .sentinel, .sentinel, .sentinel, .sentinel, .pinned], laidTests := true, laidLooks := .later }
def FnPackagistPointsCardSaid : Prop := Claim7.holds Tryd.pinned (.plain (OpenSpec.ofChange fnPackagistPointsSpec)) fnPackagistPointsCard

/-- THE SECOND FORM's CARD OF 'laws.FnPackagistNumbers'. -/
def fnPackagistNumbersUptoCard : Claim7 := { stood := { row := fnPackagistNumbersUptoRow, standIns := [], harness := (true, "02fd868528d195c5a1d83fd29174428a05f6c51d30743917b24bc1ebf91959da"), looks := true }, kinds := [], alts := [], laidByText := true, laidKinds := [.data, .data, .data, .data, .sentinel, .sentinel, .sentinel, .sentinel, .sentinel, .sentinel, .pinned], laidTests := true, laidLooks := .later }
def FnPackagistNumbersUptoCardSaid : Prop := Claim7.holds Tryd.pinned (.plain (OpenSpec.upto fnPackagistNumbersSpec)) fnPackagistNumbersUptoCard

/-- THE SECOND FORM's CARD OF 'laws.FnPackagistStages'. -/
def fnPackagistStagesUptoCard : Claim7 := { stood := { row := fnPackagistStagesUptoRow, standIns := [], harness := (true, "02fd868528d195c5a1d83fd29174428a05f6c51d30743917b24bc1ebf91959da"), looks := true }, kinds := [], alts := [], laidByText := true, laidKinds := [.data, .data, .data, .data, .sentinel, .sentinel, .sentinel, .sentinel, .sentinel, .sentinel, .pinned], laidTests := true, laidLooks := .later }
def FnPackagistStagesUptoCardSaid : Prop := Claim7.holds Tryd.pinned (.plain (OpenSpec.upto fnPackagistStagesSpec)) fnPackagistStagesUptoCard

/-- THE SECOND FORM's CARD OF 'laws.FnPackagistMarks'. -/
def fnPackagistMarksUptoCard : Claim7 := { stood := { row := fnPackagistMarksUptoRow, standIns := [], harness := (true, "02fd868528d195c5a1d83fd29174428a05f6c51d30743917b24bc1ebf91959da"), looks := true }, kinds := [], alts := [], laidByText := true, laidKinds := [.data, .data, .data, .data, .sentinel, .sentinel, .sentinel, .sentinel, .sentinel, .sentinel, .pinned], laidTests := true, laidLooks := .later }
def FnPackagistMarksUptoCardSaid : Prop := Claim7.holds Tryd.pinned (.plain (OpenSpec.upto fnPackagistMarksSpec)) fnPackagistMarksUptoCard

/-- THE SECOND FORM's CARD OF 'laws.FnPackagistPoints'. -/
def fnPackagistPointsUptoCard : Claim7 := { stood := { row := fnPackagistPointsUptoRow, standIns := [], harness := (true, "02fd868528d195c5a1d83fd29174428a05f6c51d30743917b24bc1ebf91959da"), looks := true }, kinds := [], alts := [], laidByText := true, laidKinds := [.data, .data, .data, .data, .sentinel, .sentinel, .sentinel, .sentinel, .sentinel, .sentinel, .pinned], laidTests := true, laidLooks := .later }
def FnPackagistPointsUptoCardSaid : Prop := Claim7.holds Tryd.pinned (.plain (OpenSpec.upto fnPackagistPointsSpec)) fnPackagistPointsUptoCard
end Rows
end Go.Proofs.YtdjkekgfeadmoaaDoor
