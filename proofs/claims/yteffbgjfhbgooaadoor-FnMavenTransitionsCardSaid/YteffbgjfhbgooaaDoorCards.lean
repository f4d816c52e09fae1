/-
  DERIVED. GIVEN WITH THE SEED: THE CARDS: each row of YteffbgjfhbgooaaDoorRows.lean that lists a variable, with what it lists TIED to the program's text (the seventh form; the later family's looks); each row that meets fmt, with fmt's text TOLD by the authors' own Lean function (tested against real Go, not proved from fmt's source: count such statements apart). THE CARD IS WHAT COUNTS. Prove the row's statement (the work); the ties are given (YteffbgjfhbgooaaDoorTie.lean); close each card by the builder's one call (the guide's Derived/Test/ToyasCard.lean, 'card_holds'). Laid BY PROGRAM, IN A SANDBOX (cutbox-door.mjs). By AI agents, Wed Nov 11 2026. No macro, syntax, notation, axiom, sorry.
-/
import Derived.Test.YteffbgjfhbgooaaDoorRows
import GoSem.ClaimSeven
namespace Go.Proofs.YteffbgjfhbgooaaDoor
namespace Rows

/-- THE TIED CARD OF 'laws.FnPackagistCanonical'. -/
def fnPackagistCanonicalCard : Claim7 := { stood := { row := fnPackagistCanonicalRow, standIns := [], harness := (true, "f1bb299864d3757831f7e0b340d369746a3af6896014317bbe2e71da7a05824c"), looks := false }, kinds := [], alts := [], laidByText := true, laidKinds := [.data, .pinned], laidTests := true, laidLooks := .later }
def FnPackagistCanonicalCardSaid : Prop := Claim7.holds Tryd.pinned (.plain (OpenSpec.ofChange fnPackagistCanonicalSpec)) fnPackagistCanonicalCard

/-- THE TIED CARD OF 'laws.FnPackagistTwice'. -/
def fnPackagistTwiceCard : Claim7 := { stood := { row := fnPackagistTwiceRow, standIns := [], harness := (true, "f1bb299864d3757831f7e0b340d369746a3af6896014317bbe2e71da7a05824c"), looks := false }, kinds := [], alts := [], laidByText := true, laidKinds := [.data, .pinned], laidTests := true, laidLooks := .later }
def FnPackagistTwiceCardSaid : Prop := Claim7.holds Tryd.pinned (.plain (OpenSpec.ofChange fnPackagistTwiceSpec)) fnPackagistTwiceCard

/-- THE TIED CARD OF 'laws.FnPackagistJoin'. -/
def fnPackagistJoinCard : Claim7 := { stood := { row := fnPackagistJoinRow, standIns := [], harness := (true, "f1bb299864d3757831f7e0b340d369746a3af6896014317bbe2e71da7a05824c"), looks := false }, kinds := [], alts := [], laidByText := true, laidKinds := [.data, .pinned], laidTests := true, laidLooks := .later }
def FnPackagistJoinCardSaid : Prop := Claim7.holds Tryd.pinned (.plain (OpenSpec.ofChange fnPackagistJoinSpec)) fnPackagistJoinCard

/-- THE TIED CARD OF 'laws.FnPackagistParse'. -/
def fnPackagistParseCard : Claim7 := { stood := { row := fnPackagistParseRow, standIns := [], harness := (true, "f1bb299864d3757831f7e0b340d369746a3af6896014317bbe2e71da7a05824c"), looks := false }, kinds := [], alts := [], laidByText := true, laidKinds := [.data, .pinned], laidTests := true, laidLooks := .later }
def FnPackagistParseCardSaid : Prop := Claim7.holds Tryd.pinned (.plain (OpenSpec.ofChange fnPackagistParseSpec)) fnPackagistParseCard

/-- THE TIED CARD OF 'laws.FnPyPILocalJoined'. -/
def fnPyPILocalJoinedCard : Claim7 := { stood := { row := fnPyPILocalJoinedRow, standIns := [], harness := (true, "f1bb299864d3757831f7e0b340d369746a3af6896014317bbe2e71da7a05824c"), looks := false }, kinds := [], alts := [], laidByText := true, laidKinds := [.data, .pinned, .pinned], laidTests := true, laidLooks := .later }
def FnPyPILocalJoinedCardSaid : Prop := Claim7.holds Tryd.pinned (.plain (OpenSpec.ofChange fnPyPILocalJoinedSpec)) fnPyPILocalJoinedCard

/-- THE TIED CARD OF 'laws.FnPyPILocalParts'. -/
def fnPyPILocalPartsCard : Claim7 := { stood := { row := fnPyPILocalPartsRow, standIns := [], harness := (true, "f1bb299864d3757831f7e0b340d369746a3af6896014317bbe2e71da7a05824c"), looks := false }, kinds := [], alts := [], laidByText := true, laidKinds := [.data, .pinned, .pinned], laidTests := true, laidLooks := .later }
def FnPyPILocalPartsCardSaid : Prop := Claim7.holds Tryd.pinned (.plain (OpenSpec.ofChange fnPyPILocalPartsSpec)) fnPyPILocalPartsCard

/-- THE TIED CARD OF 'laws.FnMavenTransitions'. -/
def fnMavenTransitionsCard : Claim7 := { stood := { row := fnMavenTransitionsRow, standIns := [], harness := (true, "f1bb299864d3757831f7e0b340d369746a3af6896014317bbe2e71da7a05824c"), looks := false }, kinds := [], alts := [], laidByText := true, laidKinds := [.data, .pinned], laidTests := true, laidLooks := .later }
def FnMavenTransitionsCardSaid : Prop := Claim7.holds Tryd.pinned (.plain (OpenSpec.ofChange fnMavenTransitionsSpec)) fnMavenTransitionsCard

/-- THE SECOND FORM's CARD OF 'laws.FnPackagistCanonical'. -/
def fnPackagistCanonicalUptoCard : Claim7 := { stood := { row := fnPackagistCanonicalUptoRow, standIns := [], harness := (true, "f1bb299864d3757831f7e0b340d369746a3af6896014317bbe2e71da7a05824c"), looks := false }, kinds := [], alts := [], laidByText := true, laidKinds := [.data, .pinned], laidTests := true, laidLooks := .later }
def FnPackagistCanonicalUptoCardSaid : Prop := Claim7.holds Tryd.pinned (.plain (OpenSpec.upto fnPackagistCanonicalSpec)) fnPackagistCanonicalUptoCard

/-- THE SECOND FORM's CARD OF 'laws.FnPackagistTwice'. -/
def fnPackagistTwiceUptoCard : Claim7 := { stood := { row := fnPackagistTwiceUptoRow, standIns := [], harness := (true, "f1bb299864d3757831f7e0b340d369746a3af6896014317bbe2e71da7a05824c"), looks := false }, kinds := [], alts := [], laidByText := true, laidKinds := [.data, .pinned], laidTests := true, laidLooks := .later }
def FnPackagistTwiceUptoCardSaid : Prop := Claim7.holds Tryd.pinned (.plain (OpenSpec.upto fnPackagistTwiceSpec)) fnPackagistTwiceUptoCard

/-- THE SECOND FORM's CARD OF 'laws.FnPackagistJoin'. -/
def fnPackagistJoinUptoCard : Claim7 := { stood := { row := fnPackagistJoinUptoRow, standIns := [], harness := (true, "f1bb299864d3757831f7e0b340d369746a3af6896014317bbe2e71da7a05824c"), looks := false }, kinds := [], alts := [], laidByText := true, laidKinds := [.data, .pinned], laidTests := true, laidLooks := .later }
def FnPackagistJoinUptoCardSaid : Prop := Claim7.holds Tryd.pinned (.plain (OpenSpec.upto fnPackagistJoinSpec)) fnPackagistJoinUptoCard

/-- THE SECOND FORM's CARD OF 'laws.FnPackagistParse'. -/
def fnPackagistParseUptoCard : Claim7 := { stood := { row := fnPackagistParseUptoRow, standIns := [], harness := (true, "f1bb299864d3757831f7e0b340d369746a3af6896014317bbe2e71da7a05824c"), looks := false }, kinds := [], alts := [], laidByText := true, laidKinds := [.data, .pinned], laidTests := true, laidLooks := .later }
def FnPackagistParseUptoCardSaid : Prop := Claim7.holds Tryd.pinned (.plain (OpenSpec.upto fnPackagistParseSpec)) fnPackagistParseUptoCard

/-- THE SECOND FORM's CARD OF 'laws.FnPyPILocalJoined'. -/
def fnPyPILocalJoinedUptoCard : Claim7 := { stood := { row := fnPyPILocalJoinedUptoRow, standIns := [], harness := (true, "f1bb299864d3757831f7e0b340d369746a3af6896014317bbe2e71da7a05824c"), looks := false }, kinds := [], alts := [], laidByText := true, laidKinds := [.data, .pinned, .pinned], laidTests := true, laidLooks := .later }
def FnPyPILocalJoinedUptoCardSaid : Prop := Claim7.holds Tryd.pinned (.plain (OpenSpec.upto fnPyPILocalJoinedSpec)) fnPyPILocalJoinedUptoCard

/-- THE SECOND FORM's CARD OF 'laws.FnPyPILocalParts'. -/
def fnPyPILocalPartsUptoCard : Claim7 := { stood := { row := fnPyPILocalPartsUptoRow, standIns := [], harness := (true, "f1bb299864d3757831f7e0b340d369746a3af6896014317bbe2e71da7a05824c"), looks := false }, kinds := [], alts := [], laidByText := true, laidKinds := [.data, .pinned, .pinned], laidTests := true, laidLooks := .later }
def FnPyPILocalPartsUptoCardSaid : Prop := Claim7.holds Tryd.pinned (.plain (OpenSpec.upto fnPyPILocalPartsSpec)) fnPyPILocalPartsUptoCard

/-- THE SECOND FORM's CARD OF 'laws.FnMavenTransitions'. -/
def fnMavenTransitionsUptoCard : Claim7 := { stood := { row := fnMavenTransitionsUptoRow, standIns := [], harness := (true, "f1bb299864d3757831f7e0b340d369746a3af6896014317bbe2e71da7a05824c"), looks := false }, kinds := [], alts := [], laidByText := true, laidKinds := [.data, .pinned], laidTests := true, laidLooks := .later }
def FnMavenTransitionsUptoCardSaid : Prop := Claim7.holds Tryd.pinned (.plain (OpenSpec.upto fnMavenTransitionsSpec)) fnMavenTransitionsUptoCard
end Rows
end Go.Proofs.YteffbgjfhbgooaaDoor
