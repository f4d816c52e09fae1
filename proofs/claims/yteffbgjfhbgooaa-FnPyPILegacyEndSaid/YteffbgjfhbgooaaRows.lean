/-
  No cell of these rows narrows 'for every input' (looked for: loops, veiled, ifaces, maps, wideKeys, modest, calm, conditions, laid).
  DERIVED. THE GIVEN ROWS OF THIS SEAT. 2 by the template 'for every input the law returns true; each argument reads behind the call as it read before'; 0 by the template 'total and deterministic' (their statements: YteffbgjfhbgooaaTotals.lean).
  GIVEN WITH THE SEED: the statements are not yours to turn. If you find one false, say at which input.
  Laid BY PROGRAM, IN A SANDBOX (cutbox-rows.mjs): the forced cells as the released guide's own fill.sh prints them over the translation e50e6153f3a2eb93… (all of the seat's roots in one cut). By AI agents, Wed Nov 11 2026. No macro, syntax, notation, axiom, sorry.
-/
import Derived.Test.YteffbgjfhbgooaaChecked
import GoSem.Claim
import GoSem.ClaimJoined
import GoSem.ClaimMapViews
import Derived.JoinedTies
import Derived.KernelRfl
namespace Go.Proofs.Yteffbgjfhbgooaa
/- THE CELL 'sum', in the pinned program and in every row, IS THE sha256 OF THE DUMP (.gsa) THAT YteffbgjfhbgooaaProg.lean LOADS. Nothing in Lean hashes anything: it is a label: what it is worth is what the hold of that sum in a sandbox is worth. -/
noncomputable def Try.pinned : Pinned := { name := "yteffbgjfhbgooaa", sum := "e50e6153f3a2eb9378cbc733a914610dd0fee490e8efb94e46250a1d8bf0d498", checked := Try.checked }
namespace Rows
def none {H : Type} : Left H := { results := [], args := [] }

/-- 'laws.FnPyPILegacyEnd': WHATEVER THE INPUT: true; the input reads as it did. -/
def fnPyPILegacyEndSpec : ChangeSpec := { name := "fnPyPILegacyEnd", fn := fun _ => fun
  | [d] => { results := [.lit (.bool true)], args := [d] }
  | _ => none }
def fnPyPILegacyEndRow : OpenClaim := { program := "yteffbgjfhbgooaa", sum := "e50e6153f3a2eb9378cbc733a914610dd0fee490e8efb94e46250a1d8bf0d498", func := "pub-primogeniture/laws.FnPyPILegacyEnd", spec := "fnPyPILegacyEnd", inPlace := ["internal/bytealg.abigen_runtime_cmpstring"], apart := false }
def FnPyPILegacyEndSaid : Prop := fnPyPILegacyEndRow.holds Try.pinned (OpenSpec.ofChange fnPyPILegacyEndSpec)

/-- ITS FALSE NEIGHBOUR: 'it returns false'. Refute it at one input. -/
def fnPyPILegacyEndWrong : ChangeSpec := { name := "fnPyPILegacyEnd", fn := fun _ => fun
  | [d] => { results := [.lit (.bool false)], args := [d] }
  | _ => none }
def FnPyPILegacyEndWrongFalsely : Prop := fnPyPILegacyEndRow.holds Try.pinned (OpenSpec.ofChange fnPyPILegacyEndWrong)

/-- 'laws.FnPyPIParts': WHATEVER THE INPUT: true; the input reads as it did. -/
def fnPyPIPartsSpec : ChangeSpec := { name := "fnPyPIParts", fn := fun _ => fun
  | [d] => { results := [.lit (.bool true)], args := [d] }
  | _ => none }
def fnPyPIPartsRow : OpenClaim := { program := "yteffbgjfhbgooaa", sum := "e50e6153f3a2eb9378cbc733a914610dd0fee490e8efb94e46250a1d8bf0d498", func := "pub-primogeniture/laws.FnPyPIParts", spec := "fnPyPIParts", inPlace := ["internal/bytealg.abigen_runtime_cmpstring"], apart := false }
def FnPyPIPartsSaid : Prop := fnPyPIPartsRow.holds Try.pinned (OpenSpec.ofChange fnPyPIPartsSpec)

/-- ITS FALSE NEIGHBOUR: 'it returns false'. Refute it at one input. -/
def fnPyPIPartsWrong : ChangeSpec := { name := "fnPyPIParts", fn := fun _ => fun
  | [d] => { results := [.lit (.bool false)], args := [d] }
  | _ => none }
def FnPyPIPartsWrongFalsely : Prop := fnPyPIPartsRow.holds Try.pinned (OpenSpec.ofChange fnPyPIPartsWrong)

/- THE SECOND FORM. 'bulk': how many values and letters a reading holds, each counted each time it is reached (what is shared counts as often as it is met; a slice's spare places count too). A statement '..UptoSaid' is the law's where the arguments, and the package variables that the reading takes, are together of bulk at most 1048576: NARROWER than '..Said'. Prove '..Said' where nothing that the law and all that it calls make is longer than what came in: it says more and counts as full. Else prove '..UptoSaid'. A law counts once. -/
mutual
def uptoBulk {H : Type} : DataW H → Nat
  | .lit (.string bytes) => bytes.length + 1
  | .lit _ => 1
  | .nil => 1
  | .ptr d => uptoBulk d + 1
  | .slice elems spare => uptoBulkAll elems + uptoBulkAll spare + 1
  | .agg parts => uptoBulkAll parts + 1
  | .iface _ d => uptoBulk d + 1
  | .map entries => uptoBulkEntries entries + 1
  | .held _ => 1
def uptoBulkAll {H : Type} : List (DataW H) → Nat
  | [] => 0
  | d :: r => uptoBulk d + uptoBulkAll r
def uptoBulkEntries {H : Type} : List (Lit × DataW H) → Nat
  | [] => 0
  | x :: r => uptoBulkEntry x + uptoBulkEntries r
def uptoBulkEntry {H : Type} : Lit × DataW H → Nat
  | (.string bytes, d) => bytes.length + uptoBulk d + 1
  | (_, d) => uptoBulk d + 1
 end
def uptoSmall : (H : Type) → List (DataW H) → Bool := fun _ ds => decide (uptoBulkAll ds ≤ 1048576)
def OpenSpec.upto (s : _root_.Go.ChangeSpec) : _root_.Go.OpenSpec := { _root_.Go.OpenSpec.ofChange s with cond := some uptoSmall }

/-- 'laws.FnPyPILegacyEnd', WHERE WHAT IT READS IS OF BULK AT MOST 1048576: true; the input reads as it did. -/
def fnPyPILegacyEndUptoRow : OpenClaim := { program := "yteffbgjfhbgooaa", sum := "e50e6153f3a2eb9378cbc733a914610dd0fee490e8efb94e46250a1d8bf0d498", func := "pub-primogeniture/laws.FnPyPILegacyEnd", spec := "fnPyPILegacyEnd", inPlace := ["internal/bytealg.abigen_runtime_cmpstring"], apart := false, narrowed := true }
def FnPyPILegacyEndUptoSaid : Prop := fnPyPILegacyEndUptoRow.holds Try.pinned (OpenSpec.upto fnPyPILegacyEndSpec)

/-- 'laws.FnPyPIParts', WHERE WHAT IT READS IS OF BULK AT MOST 1048576: true; the input reads as it did. -/
def fnPyPIPartsUptoRow : OpenClaim := { program := "yteffbgjfhbgooaa", sum := "e50e6153f3a2eb9378cbc733a914610dd0fee490e8efb94e46250a1d8bf0d498", func := "pub-primogeniture/laws.FnPyPIParts", spec := "fnPyPIParts", inPlace := ["internal/bytealg.abigen_runtime_cmpstring"], apart := false, narrowed := true }
def FnPyPIPartsUptoSaid : Prop := fnPyPIPartsUptoRow.holds Try.pinned (OpenSpec.upto fnPyPIPartsSpec)

end Rows
end Go.Proofs.Yteffbgjfhbgooaa
