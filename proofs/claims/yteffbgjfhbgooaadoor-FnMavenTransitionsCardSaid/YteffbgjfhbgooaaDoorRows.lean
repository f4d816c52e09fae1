/-
  NARROWER THAN 'FOR EVERY INPUT', by the rows' own cells (each row's printed sentence says how): FnPackagistCanonical: laid · FnPackagistTwice: laid · FnPackagistJoin: laid · FnPackagistParse: laid · FnPyPILocalJoined: laid · FnPyPILocalParts: laid · FnMavenTransitions: laid.
  DERIVED. THE GIVEN ROWS OF THIS SEAT. 7 by the template 'for every input the law returns true; each argument reads behind the call as it read before'; 0 by the template 'total and deterministic' (their statements: YteffbgjfhbgooaaDoorTotals.lean).
  GIVEN WITH THE SEED: the statements are not yours to turn. If you find one false, say at which input.
  Laid BY PROGRAM, IN A SANDBOX (cutbox-rows.mjs): the forced cells as the released guide's own fill.sh prints them over the translation 7d57baf8730c61ab… (all of the seat's roots in one cut). By AI agents, Wed Nov 11 2026. No macro, syntax, notation, axiom, sorry.
-/
import Derived.Test.YteffbgjfhbgooaaDoorChecked
import GoSem.PinnedTables
import GoSem.Claim
import GoSem.ClaimJoined
import GoSem.ClaimMapViews
import Derived.JoinedTies
import Derived.KernelRfl
namespace Go.Proofs.YteffbgjfhbgooaaDoor
/- THE CELL 'sum', in the pinned program and in every row, IS THE sha256 OF THE DUMP (.gsa) THAT YteffbgjfhbgooaaDoorProg.lean LOADS. Nothing in Lean hashes anything: it is a label: what it is worth is what the hold of that sum in a sandbox is worth. -/
noncomputable def Tryd.pinned : Pinned := { name := "yteffbgjfhbgooaadoor", sum := "7d57baf8730c61ab6c59b73071db57621361d1eb3900dee85cc30c94e07a76da", checked := Tryd.checked }
namespace Rows
def none {H : Type} : Left H := { results := [], args := [] }

/- WHAT THE LISTED PACKAGE-LEVEL VARIABLES READ AS WHEN THE CALL BEGINS. Each datum BY PROGRAM (the guide's laid-datum.mjs) off the statement by which the dump's own 'gosem.cut.vars' lays the variable. In a bare row this is a premise. The card (YteffbgjfhbgooaaDoorCards.lean) ties it to the program's text. -/
def laid_unicode_utf8_acceptRanges {H : Type} : DataW H := .agg [.agg [.lit (.int .u8 128), .lit (.int .u8 191)], .agg [.lit (.int .u8 160), .lit (.int .u8 191)], .agg [.lit (.int .u8 128), .lit (.int .u8 159)], .agg [.lit (.int .u8 144), .lit (.int .u8 191)], .agg [.lit (.int .u8 128), .lit (.int .u8 143)], .agg [.lit (.int .u8 0), .lit (.int .u8 0)], .agg [.lit (.int .u8 0), .lit (.int .u8 0)], .agg [.lit (.int .u8 0), .lit (.int .u8 0)], .agg [.lit (.int .u8 0), .lit (.int .u8 0)], .agg [.lit (.int .u8 0), .lit (.int .u8 0)], .agg [.lit (.int .u8 0), .lit (.int .u8 0)], .agg [.lit (.int .u8 0), .lit (.int .u8 0)], .agg [.lit (.int .u8 0), .lit (.int .u8 0)], .agg [.lit (.int .u8 0), .lit (.int .u8 0)], .agg [.lit (.int .u8 0), .lit (.int .u8 0)], .agg [.lit (.int .u8 0), .lit (.int .u8 0)]]
/-- One of Go's own tables, pinned by name: the form's constant. -/
def laid_unicode_utf8_first : DataW Unit := Go.Pinned.utf8First
/-- One of Go's own tables, pinned by name: the form's constant. -/
def laid_unicode_CaseRanges : DataW Unit := Go.Pinned.caseRanges

/-- 'laws.FnPackagistCanonical': WHATEVER THE INPUT: true; the input reads as it did. -/
def fnPackagistCanonicalSpec : ChangeSpec := { name := "fnPackagistCanonical", fn := fun _ => fun
  | [d] => { results := [.lit (.bool true)], args := [d] }
  | _ => none }
def fnPackagistCanonicalRow : OpenClaim := { program := "yteffbgjfhbgooaadoor", sum := "7d57baf8730c61ab6c59b73071db57621361d1eb3900dee85cc30c94e07a76da", func := "pub-primogeniture/laws.FnPackagistCanonical", spec := "fnPackagistCanonical", named := ["unicode/utf8.first", "unicode/utf8.acceptRanges"], apart := false, laid := [("unicode/utf8.acceptRanges", laid_unicode_utf8_acceptRanges), ("unicode/utf8.first", laid_unicode_utf8_first)] }
def FnPackagistCanonicalSaid : Prop := fnPackagistCanonicalRow.holds Tryd.pinned (OpenSpec.ofChange fnPackagistCanonicalSpec)

/-- ITS FALSE NEIGHBOUR: 'it returns false'. Refute it at one input. -/
def fnPackagistCanonicalWrong : ChangeSpec := { name := "fnPackagistCanonical", fn := fun _ => fun
  | [d] => { results := [.lit (.bool false)], args := [d] }
  | _ => none }
def FnPackagistCanonicalWrongFalsely : Prop := fnPackagistCanonicalRow.holds Tryd.pinned (OpenSpec.ofChange fnPackagistCanonicalWrong)

/-- 'laws.FnPackagistTwice': WHATEVER THE INPUT: true; the input reads as it did. -/
def fnPackagistTwiceSpec : ChangeSpec := { name := "fnPackagistTwice", fn := fun _ => fun
  | [d] => { results := [.lit (.bool true)], args := [d] }
  | _ => none }
def fnPackagistTwiceRow : OpenClaim := { program := "yteffbgjfhbgooaadoor", sum := "7d57baf8730c61ab6c59b73071db57621361d1eb3900dee85cc30c94e07a76da", func := "pub-primogeniture/laws.FnPackagistTwice", spec := "fnPackagistTwice", named := ["unicode/utf8.first", "unicode/utf8.acceptRanges"], apart := false, laid := [("unicode/utf8.acceptRanges", laid_unicode_utf8_acceptRanges), ("unicode/utf8.first", laid_unicode_utf8_first)] }
def FnPackagistTwiceSaid : Prop := fnPackagistTwiceRow.holds Tryd.pinned (OpenSpec.ofChange fnPackagistTwiceSpec)

/-- ITS FALSE NEIGHBOUR: 'it returns false'. Refute it at one input. -/
def fnPackagistTwiceWrong : ChangeSpec := { name := "fnPackagistTwice", fn := fun _ => fun
  | [d] => { results := [.lit (.bool false)], args := [d] }
  | _ => none }
def FnPackagistTwiceWrongFalsely : Prop := fnPackagistTwiceRow.holds Tryd.pinned (OpenSpec.ofChange fnPackagistTwiceWrong)

/-- 'laws.FnPackagistJoin': WHATEVER THE INPUT: true; the input reads as it did. -/
def fnPackagistJoinSpec : ChangeSpec := { name := "fnPackagistJoin", fn := fun _ => fun
  | [d] => { results := [.lit (.bool true)], args := [d] }
  | _ => none }
def fnPackagistJoinRow : OpenClaim := { program := "yteffbgjfhbgooaadoor", sum := "7d57baf8730c61ab6c59b73071db57621361d1eb3900dee85cc30c94e07a76da", func := "pub-primogeniture/laws.FnPackagistJoin", spec := "fnPackagistJoin", named := ["unicode/utf8.first", "unicode/utf8.acceptRanges"], apart := false, laid := [("unicode/utf8.acceptRanges", laid_unicode_utf8_acceptRanges), ("unicode/utf8.first", laid_unicode_utf8_first)] }
def FnPackagistJoinSaid : Prop := fnPackagistJoinRow.holds Tryd.pinned (OpenSpec.ofChange fnPackagistJoinSpec)

/-- ITS FALSE NEIGHBOUR: 'it returns false'. Refute it at one input. -/
def fnPackagistJoinWrong : ChangeSpec := { name := "fnPackagistJoin", fn := fun _ => fun
  | [d] => { results := [.lit (.bool false)], args := [d] }
  | _ => none }
def FnPackagistJoinWrongFalsely : Prop := fnPackagistJoinRow.holds Tryd.pinned (OpenSpec.ofChange fnPackagistJoinWrong)

/-- 'laws.FnPackagistParse': WHATEVER THE INPUT: true; the input reads as it did. -/
def fnPackagistParseSpec : ChangeSpec := { name := "fnPackagistParse", fn := fun _ => fun
  | [d] => { results := [.lit (.bool true)], args := [d] }
  | _ => none }
def fnPackagistParseRow : OpenClaim := { program := "yteffbgjfhbgooaadoor", sum := "7d57baf8730c61ab6c59b73071db57621361d1eb3900dee85cc30c94e07a76da", func := "pub-primogeniture/laws.FnPackagistParse", spec := "fnPackagistParse", unfollowed := true, recurses := true, named := ["unicode/utf8.first", "unicode/utf8.acceptRanges"], apart := false, laid := [("unicode/utf8.acceptRanges", laid_unicode_utf8_acceptRanges), ("unicode/utf8.first", laid_unicode_utf8_first)] }
def FnPackagistParseSaid : Prop := fnPackagistParseRow.holds Tryd.pinned (OpenSpec.ofChange fnPackagistParseSpec)

/-- ITS FALSE NEIGHBOUR: 'it returns false'. Refute it at one input. -/
def fnPackagistParseWrong : ChangeSpec := { name := "fnPackagistParse", fn := fun _ => fun
  | [d] => { results := [.lit (.bool false)], args := [d] }
  | _ => none }
def FnPackagistParseWrongFalsely : Prop := fnPackagistParseRow.holds Tryd.pinned (OpenSpec.ofChange fnPackagistParseWrong)

/-- 'laws.FnPyPILocalJoined': WHATEVER THE INPUT: true; the input reads as it did. -/
def fnPyPILocalJoinedSpec : ChangeSpec := { name := "fnPyPILocalJoined", fn := fun _ => fun
  | [d1, d2] => { results := [.lit (.bool true)], args := [d1, d2] }
  | _ => none }
def fnPyPILocalJoinedRow : OpenClaim := { program := "yteffbgjfhbgooaadoor", sum := "7d57baf8730c61ab6c59b73071db57621361d1eb3900dee85cc30c94e07a76da", func := "pub-primogeniture/laws.FnPyPILocalJoined", spec := "fnPyPILocalJoined", inPlace := ["internal/abi.NoEscape", "internal/bytealg.MakeNoZero"], unfollowed := true, recurses := true, named := ["unicode/utf8.first", "unicode/utf8.acceptRanges", "unicode.CaseRanges"], apart := false, laid := [("unicode/utf8.acceptRanges", laid_unicode_utf8_acceptRanges), ("unicode.CaseRanges", laid_unicode_CaseRanges), ("unicode/utf8.first", laid_unicode_utf8_first)] }
def FnPyPILocalJoinedSaid : Prop := fnPyPILocalJoinedRow.holds Tryd.pinned (OpenSpec.ofChange fnPyPILocalJoinedSpec)

/-- ITS FALSE NEIGHBOUR: 'it returns false'. Refute it at one input. -/
def fnPyPILocalJoinedWrong : ChangeSpec := { name := "fnPyPILocalJoined", fn := fun _ => fun
  | [d1, d2] => { results := [.lit (.bool false)], args := [d1, d2] }
  | _ => none }
def FnPyPILocalJoinedWrongFalsely : Prop := fnPyPILocalJoinedRow.holds Tryd.pinned (OpenSpec.ofChange fnPyPILocalJoinedWrong)

/-- 'laws.FnPyPILocalParts': WHATEVER THE INPUT: true; the input reads as it did. -/
def fnPyPILocalPartsSpec : ChangeSpec := { name := "fnPyPILocalParts", fn := fun _ => fun
  | [d] => { results := [.lit (.bool true)], args := [d] }
  | _ => none }
def fnPyPILocalPartsRow : OpenClaim := { program := "yteffbgjfhbgooaadoor", sum := "7d57baf8730c61ab6c59b73071db57621361d1eb3900dee85cc30c94e07a76da", func := "pub-primogeniture/laws.FnPyPILocalParts", spec := "fnPyPILocalParts", inPlace := ["internal/abi.NoEscape", "internal/bytealg.MakeNoZero"], unfollowed := true, recurses := true, named := ["unicode/utf8.first", "unicode/utf8.acceptRanges", "unicode.CaseRanges"], apart := false, laid := [("unicode/utf8.acceptRanges", laid_unicode_utf8_acceptRanges), ("unicode.CaseRanges", laid_unicode_CaseRanges), ("unicode/utf8.first", laid_unicode_utf8_first)] }
def FnPyPILocalPartsSaid : Prop := fnPyPILocalPartsRow.holds Tryd.pinned (OpenSpec.ofChange fnPyPILocalPartsSpec)

/-- ITS FALSE NEIGHBOUR: 'it returns false'. Refute it at one input. -/
def fnPyPILocalPartsWrong : ChangeSpec := { name := "fnPyPILocalParts", fn := fun _ => fun
  | [d] => { results := [.lit (.bool false)], args := [d] }
  | _ => none }
def FnPyPILocalPartsWrongFalsely : Prop := fnPyPILocalPartsRow.holds Tryd.pinned (OpenSpec.ofChange fnPyPILocalPartsWrong)

/-- 'laws.FnMavenTransitions': WHATEVER THE INPUT: true; the input reads as it did. -/
def fnMavenTransitionsSpec : ChangeSpec := { name := "fnMavenTransitions", fn := fun _ => fun
  | [d] => { results := [.lit (.bool true)], args := [d] }
  | _ => none }
def fnMavenTransitionsRow : OpenClaim := { program := "yteffbgjfhbgooaadoor", sum := "7d57baf8730c61ab6c59b73071db57621361d1eb3900dee85cc30c94e07a76da", func := "pub-primogeniture/laws.FnMavenTransitions", spec := "fnMavenTransitions", recurses := true, named := ["unicode/utf8.first", "unicode/utf8.acceptRanges"], apart := false, laid := [("unicode/utf8.acceptRanges", laid_unicode_utf8_acceptRanges), ("unicode/utf8.first", laid_unicode_utf8_first)] }
def FnMavenTransitionsSaid : Prop := fnMavenTransitionsRow.holds Tryd.pinned (OpenSpec.ofChange fnMavenTransitionsSpec)

/-- ITS FALSE NEIGHBOUR: 'it returns false'. Refute it at one input. -/
def fnMavenTransitionsWrong : ChangeSpec := { name := "fnMavenTransitions", fn := fun _ => fun
  | [d] => { results := [.lit (.bool false)], args := [d] }
  | _ => none }
def FnMavenTransitionsWrongFalsely : Prop := fnMavenTransitionsRow.holds Tryd.pinned (OpenSpec.ofChange fnMavenTransitionsWrong)

/- THE SECOND FORM. 'bulk': how many values and letters a reading holds, each counted each time it is reached (what is shared counts as often as it is met; a slice's spare places count too). A statement '..UptoSaid' is the law's where the arguments, and the package variables that the reading takes, are together of bulk at most 1048576: NARROWER than '..Said'. Prove '..Said' where nothing that the law and all that it calls make is longer than what came in: it says more and counts as full. Else prove '..UptoSaid'. A law counts once. -/
mutual
def uptoBulk {H : Type} : DataW H → Nat
  | .lit (.string bytes) => bytes.length + 1
  | .lit _ => 1
  | .nil => 1
  | .ptr d => uptoBulk d + 1
  | .slice elems spare => uptoBulkAll elems + uptoBulkAll spare + 1
  | .agg parts => uptoBulkAll parts + 1
  | .iface _ d => uptoBulk d + 1
  | .map entries => uptoBulkEntries entries + 1
  | .held _ => 1
def uptoBulkAll {H : Type} : List (DataW H) → Nat
  | [] => 0
  | d :: r => uptoBulk d + uptoBulkAll r
def uptoBulkEntries {H : Type} : List (Lit × DataW H) → Nat
  | [] => 0
  | x :: r => uptoBulkEntry x + uptoBulkEntries r
def uptoBulkEntry {H : Type} : Lit × DataW H → Nat
  | (.string bytes, d) => bytes.length + uptoBulk d + 1
  | (_, d) => uptoBulk d + 1
 end
def uptoSmall : (H : Type) → List (DataW H) → Bool := fun _ ds => decide (uptoBulkAll ds ≤ 1048576)
def OpenSpec.upto (s : _root_.Go.ChangeSpec) : _root_.Go.OpenSpec := { _root_.Go.OpenSpec.ofChange s with cond := some uptoSmall }

/-- 'laws.FnPackagistCanonical', WHERE WHAT IT READS IS OF BULK AT MOST 1048576: true; the input reads as it did. -/
def fnPackagistCanonicalUptoRow : OpenClaim := { program := "yteffbgjfhbgooaadoor", sum := "7d57baf8730c61ab6c59b73071db57621361d1eb3900dee85cc30c94e07a76da", func := "pub-primogeniture/laws.FnPackagistCanonical", spec := "fnPackagistCanonical", named := ["unicode/utf8.first", "unicode/utf8.acceptRanges"], apart := false, laid := [("unicode/utf8.acceptRanges", laid_unicode_utf8_acceptRanges), ("unicode/utf8.first", laid_unicode_utf8_first)], narrowed := true }
def FnPackagistCanonicalUptoSaid : Prop := fnPackagistCanonicalUptoRow.holds Tryd.pinned (OpenSpec.upto fnPackagistCanonicalSpec)

/-- 'laws.FnPackagistTwice', WHERE WHAT IT READS IS OF BULK AT MOST 1048576: true; the input reads as it did. -/
def fnPackagistTwiceUptoRow : OpenClaim := { program := "yteffbgjfhbgooaadoor", sum := "7d57baf8730c61ab6c59b73071db57621361d1eb3900dee85cc30c94e07a76da", func := "pub-primogeniture/laws.FnPackagistTwice", spec := "fnPackagistTwice", named := ["unicode/utf8.first", "unicode/utf8.acceptRanges"], apart := false, laid := [("unicode/utf8.acceptRanges", laid_unicode_utf8_acceptRanges), ("unicode/utf8.first", laid_unicode_utf8_first)], narrowed := true }
def FnPackagistTwiceUptoSaid : Prop := fnPackagistTwiceUptoRow.holds Tryd.pinned (OpenSpec.upto fnPackagistTwiceSpec)

/-- 'laws.FnPackagistJoin', WHERE WHAT IT READS IS OF BULK AT MOST 1048576: true; the input reads as it did. -/
def fnPackagistJoinUptoRow : OpenClaim := { program := "yteffbgjfhbgooaadoor", sum := "7d57baf8730c61ab6c59b73071db57621361d1eb3900dee85cc30c94e07a76da", func := "pub-primogeniture/laws.FnPackagistJoin", spec := "fnPackagistJoin", named := ["unicode/utf8.first", "unicode/utf8.acceptRanges"], apart := false, laid := [("unicode/utf8.acceptRanges", laid_unicode_utf8_acceptRanges), ("unicode/utf8.first", laid_unicode_utf8_first)], narrowed := true }
def FnPackagistJoinUptoSaid : Prop := fnPackagistJoinUptoRow.holds Tryd.pinned (OpenSpec.upto fnPackagistJoinSpec)

/-- 'laws.FnPackagistParse', WHERE WHAT IT READS IS OF BULK AT MOST 1048576: true; the input reads as it did. -/
def fnPackagistParseUptoRow : OpenClaim := { program := "yteffbgjfhbgooaadoor", sum := "7d57baf8730c61ab6c59b73071db57621361d1eb3900dee85cc30c94e07a76da", func := "pub-primogeniture/laws.FnPackagistParse", spec := "fnPackagistParse", unfollowed := true, recurses := true, named := ["unicode/utf8.first", "unicode/utf8.acceptRanges"], apart := false, laid := [("unicode/utf8.acceptRanges", laid_unicode_utf8_acceptRanges), ("unicode/utf8.first", laid_unicode_utf8_first)], narrowed := true }
def FnPackagistParseUptoSaid : Prop := fnPackagistParseUptoRow.holds Tryd.pinned (OpenSpec.upto fnPackagistParseSpec)

/-- 'laws.FnPyPILocalJoined', WHERE WHAT IT READS IS OF BULK AT MOST 1048576: true; the input reads as it did. -/
def fnPyPILocalJoinedUptoRow : OpenClaim := { program := "yteffbgjfhbgooaadoor", sum := "7d57baf8730c61ab6c59b73071db57621361d1eb3900dee85cc30c94e07a76da", func := "pub-primogeniture/laws.FnPyPILocalJoined", spec := "fnPyPILocalJoined", inPlace := ["internal/abi.NoEscape", "internal/bytealg.MakeNoZero"], unfollowed := true, recurses := true, named := ["unicode/utf8.first", "unicode/utf8.acceptRanges", "unicode.CaseRanges"], apart := false, laid := [("unicode/utf8.acceptRanges", laid_unicode_utf8_acceptRanges), ("unicode.CaseRanges", laid_unicode_CaseRanges), ("unicode/utf8.first", laid_unicode_utf8_first)], narrowed := true }
def FnPyPILocalJoinedUptoSaid : Prop := fnPyPILocalJoinedUptoRow.holds Tryd.pinned (OpenSpec.upto fnPyPILocalJoinedSpec)

/-- 'laws.FnPyPILocalParts', WHERE WHAT IT READS IS OF BULK AT MOST 1048576: true; the input reads as it did. -/
def fnPyPILocalPartsUptoRow : OpenClaim := { program := "yteffbgjfhbgooaadoor", sum := "7d57baf8730c61ab6c59b73071db57621361d1eb3900dee85cc30c94e07a76da", func := "pub-primogeniture/laws.FnPyPILocalParts", spec := "fnPyPILocalParts", inPlace := ["internal/abi.NoEscape", "internal/bytealg.MakeNoZero"], unfollowed := true, recurses := true, named := ["unicode/utf8.first", "unicode/utf8.acceptRanges", "unicode.CaseRanges"], apart := false, laid := [("unicode/utf8.acceptRanges", laid_unicode_utf8_acceptRanges), ("unicode.CaseRanges", laid_unicode_CaseRanges), ("unicode/utf8.first", laid_unicode_utf8_first)], narrowed := true }
def FnPyPILocalPartsUptoSaid : Prop := fnPyPILocalPartsUptoRow.holds Tryd.pinned (OpenSpec.upto fnPyPILocalPartsSpec)

/-- 'laws.FnMavenTransitions', WHERE WHAT IT READS IS OF BULK AT MOST 1048576: true; the input reads as it did. -/
def fnMavenTransitionsUptoRow : OpenClaim := { program := "yteffbgjfhbgooaadoor", sum := "7d57baf8730c61ab6c59b73071db57621361d1eb3900dee85cc30c94e07a76da", func := "pub-primogeniture/laws.FnMavenTransitions", spec := "fnMavenTransitions", recurses := true, named := ["unicode/utf8.first", "unicode/utf8.acceptRanges"], apart := false, laid := [("unicode/utf8.acceptRanges", laid_unicode_utf8_acceptRanges), ("unicode/utf8.first", laid_unicode_utf8_first)], narrowed := true }
def FnMavenTransitionsUptoSaid : Prop := fnMavenTransitionsUptoRow.holds Tryd.pinned (OpenSpec.upto fnMavenTransitionsSpec)

end Rows
end Go.Proofs.YteffbgjfhbgooaaDoor
