/-
  NARROWER THAN 'FOR EVERY INPUT', by the rows' own cells (each row's printed sentence says how): FnPyPIBuilt: laid · FnPyPIParse: laid · FnPyPISpellings: laid · FnPyPINumbers: laid · FnPyPIOrder: laid · FnPyPISorted: laid · FnPyPIStages: laid · FnPyPILegacy: laid · FnPyPIBack: laid · FnPyPIBuiltPair: laid · FnPyPITexts: laid.
  DERIVED. THE GIVEN ROWS OF THIS SEAT. 11 by the template 'for every input the law returns true; each argument reads behind the call as it read before'; 0 by the template 'total and deterministic' (their statements: YtlijjnjpomnphaaGreatDoorTotals.lean).
  GIVEN WITH THE SEED: the statements are not yours to turn. If you find one false, say at which input.
  Laid BY PROGRAM, IN A SANDBOX (cutbox-rows.mjs): the forced cells as the released guide's own fill.sh prints them over the translation c1994ac775d57c0e… (all of the seat's roots in one cut). By AI agents, Wed Nov 11 2026. No macro, syntax, notation, axiom, sorry.
-/
import Derived.Test.YtlijjnjpomnphaaGreatDoorChecked
import GoSem.PinnedTables
import GoSem.Claim
import GoSem.ClaimJoined
import GoSem.ClaimMapViews
import Derived.JoinedTies
import Derived.KernelRfl
namespace Go.Proofs.YtlijjnjpomnphaaGreatDoor
/- THE CELL 'sum', in the pinned program and in every row, IS THE sha256 OF THE DUMP (.gsa) THAT YtlijjnjpomnphaaGreatDoorProg.lean LOADS. Nothing in Lean hashes anything: it is a label: what it is worth is what the hold of that sum in a sandbox is worth. -/
noncomputable def Tryz.pinned : Pinned := { name := "ytlijjnjpomnphaagreatdoor", sum := "c1994ac775d57c0e840c84ac158119cbb625e37dd5d15e56282abc8e81b6bc2c", checked := Tryz.checked }
namespace Rows
def none {H : Type} : Left H := { results := [], args := [] }

/- WHAT THE LISTED PACKAGE-LEVEL VARIABLES READ AS WHEN THE CALL BEGINS. Each datum BY PROGRAM (the guide's laid-datum.mjs) off the statement by which the dump's own 'gosem.cut.vars' lays the variable. In a bare row this is a premise. The card (YtlijjnjpomnphaaGreatDoorCards.lean) ties it to the program's text. -/
def laid_unicode_utf8_acceptRanges {H : Type} : DataW H := .agg [.agg [.lit (.int .u8 128), .lit (.int .u8 191)], .agg [.lit (.int .u8 160), .lit (.int .u8 191)], .agg [.lit (.int .u8 128), .lit (.int .u8 159)], .agg [.lit (.int .u8 144), .lit (.int .u8 191)], .agg [.lit (.int .u8 128), .lit (.int .u8 143)], .agg [.lit (.int .u8 0), .lit (.int .u8 0)], .agg [.lit (.int .u8 0), .lit (.int .u8 0)], .agg [.lit (.int .u8 0), .lit (.int .u8 0)], .agg [.lit (.int .u8 0), .lit (.int .u8 0)], .agg [.lit (.int .u8 0), .lit (.int .u8 0)], .agg [.lit (.int .u8 0), .lit (.int .u8 0)], .agg [.lit (.int .u8 0), .lit (.int .u8 0)], .agg [.lit (.int .u8 0), .lit (.int .u8 0)], .agg [.lit (.int .u8 0), .lit (.int .u8 0)], .agg [.lit (.int .u8 0), .lit (.int .u8 0)], .agg [.lit (.int .u8 0), .lit (.int .u8 0)]]
def laid_io_EOF {H : Type} : DataW H := .iface "*errors.errorString" (.ptr (.agg [.lit (.string [69, 79, 70])]))
def laid_pub_primogeniture_pub_bigall_errNoDigits {H : Type} : DataW H := .iface "*errors.errorString" (.ptr (.agg [.lit (.string [110, 117, 109, 98, 101, 114, 32, 104, 97, 115, 32, 110, 111, 32, 100, 105, 103, 105, 116, 115])]))
def laid_pub_primogeniture_pub_bigall_errInvalSep {H : Type} : DataW H := .iface "*errors.errorString" (.ptr (.agg [.lit (.string [39, 95, 39, 32, 109, 117, 115, 116, 32, 115, 101, 112, 97, 114, 97, 116, 101, 32, 115, 117, 99, 99, 101, 115, 115, 105, 118, 101, 32, 100, 105, 103, 105, 116, 115])]))
def laid_pub_primogeniture_pub_scalibr_semantic_ErrInvalidVersion {H : Type} : DataW H := .iface "*errors.errorString" (.ptr (.agg [.lit (.string [105, 110, 118, 97, 108, 105, 100, 32, 118, 101, 114, 115, 105, 111, 110])]))
/-- One of Go's own tables, pinned by name: the form's constant. -/
def laid_unicode_CaseRanges : DataW Unit := Go.Pinned.caseRanges
/-- One of Go's own tables, pinned by name: the form's constant. -/
def laid_unicode_utf8_first : DataW Unit := Go.Pinned.utf8First

/-- 'laws.FnPyPIBuilt': WHATEVER THE INPUT: true; the input reads as it did. -/
def fnPyPIBuiltSpec : ChangeSpec := { name := "fnPyPIBuilt", fn := fun _ => fun
  | [d] => { results := [.lit (.bool true)], args := [d] }
  | _ => none }
def fnPyPIBuiltRow : OpenClaim := { program := "ytlijjnjpomnphaagreatdoor", sum := "c1994ac775d57c0e840c84ac158119cbb625e37dd5d15e56282abc8e81b6bc2c", func := "pub-primogeniture/laws.FnPyPIBuilt", spec := "fnPyPIBuilt", inPlace := ["internal/abi.NoEscape", "internal/bytealg.MakeNoZero", "internal/bytealg.abigen_runtime_cmpstring", "math/bits.Add64"], unfollowed := true, recurses := true, named := ["unicode/utf8.first", "unicode/utf8.acceptRanges", "unicode.CaseRanges", "pub-primogeniture/pub/scalibr/semantic.ErrInvalidVersion", "io.EOF", "pub-primogeniture/pub/bigall.errInvalSep", "pub-primogeniture/pub/bigall.errNoDigits"], apart := false, laid := [("unicode/utf8.acceptRanges", laid_unicode_utf8_acceptRanges), ("io.EOF", laid_io_EOF), ("pub-primogeniture/pub/bigall.errNoDigits", laid_pub_primogeniture_pub_bigall_errNoDigits), ("pub-primogeniture/pub/bigall.errInvalSep", laid_pub_primogeniture_pub_bigall_errInvalSep), ("pub-primogeniture/pub/scalibr/semantic.ErrInvalidVersion", laid_pub_primogeniture_pub_scalibr_semantic_ErrInvalidVersion), ("unicode.CaseRanges", laid_unicode_CaseRanges), ("unicode/utf8.first", laid_unicode_utf8_first)] }
def FnPyPIBuiltSaid : Prop := fnPyPIBuiltRow.holds Tryz.pinned (OpenSpec.ofChange fnPyPIBuiltSpec)

/-- ITS FALSE NEIGHBOUR: 'it returns false'. Refute it at one input. -/
def fnPyPIBuiltWrong : ChangeSpec := { name := "fnPyPIBuilt", fn := fun _ => fun
  | [d] => { results := [.lit (.bool false)], args := [d] }
  | _ => none }
def FnPyPIBuiltWrongFalsely : Prop := fnPyPIBuiltRow.holds Tryz.pinned (OpenSpec.ofChange fnPyPIBuiltWrong)

/-- 'laws.FnPyPIParse': WHATEVER THE INPUT: true; the input reads as it did. -/
def fnPyPIParseSpec : ChangeSpec := { name := "fnPyPIParse", fn := fun _ => fun
  | [d] => { results := [.lit (.bool true)], args := [d] }
  | _ => none }
def fnPyPIParseRow : OpenClaim := { program := "ytlijjnjpomnphaagreatdoor", sum := "c1994ac775d57c0e840c84ac158119cbb625e37dd5d15e56282abc8e81b6bc2c", func := "pub-primogeniture/laws.FnPyPIParse", spec := "fnPyPIParse", inPlace := ["internal/abi.NoEscape", "internal/bytealg.MakeNoZero", "internal/bytealg.abigen_runtime_cmpstring", "math/bits.Add64"], unfollowed := true, recurses := true, named := ["unicode/utf8.first", "unicode/utf8.acceptRanges", "unicode.CaseRanges", "pub-primogeniture/pub/scalibr/semantic.ErrInvalidVersion", "io.EOF", "pub-primogeniture/pub/bigall.errInvalSep", "pub-primogeniture/pub/bigall.errNoDigits"], apart := false, laid := [("unicode/utf8.acceptRanges", laid_unicode_utf8_acceptRanges), ("io.EOF", laid_io_EOF), ("pub-primogeniture/pub/bigall.errNoDigits", laid_pub_primogeniture_pub_bigall_errNoDigits), ("pub-primogeniture/pub/bigall.errInvalSep", laid_pub_primogeniture_pub_bigall_errInvalSep), ("pub-primogeniture/pub/scalibr/semantic.ErrInvalidVersion", laid_pub_primogeniture_pub_scalibr_semantic_ErrInvalidVersion), ("unicode.CaseRanges", laid_unicode_CaseRanges), ("unicode/utf8.first", laid_unicode_utf8_first)] }
def FnPyPIParseSaid : Prop := fnPyPIParseRow.holds Tryz.pinned (OpenSpec.ofChange fnPyPIParseSpec)

/-- ITS FALSE NEIGHBOUR: 'it returns false'. Refute it at one input. -/
def fnPyPIParseWrong : ChangeSpec := { name := "fnPyPIParse", fn := fun _ => fun
  | [d] => { results := [.lit (.bool false)], args := [d] }
  | _ => none }
def FnPyPIParseWrongFalsely : Prop := fnPyPIParseRow.holds Tryz.pinned (OpenSpec.ofChange fnPyPIParseWrong)

/-- 'laws.FnPyPISpellings': WHATEVER THE INPUT: true; the input reads as it did. -/
def fnPyPISpellingsSpec : ChangeSpec := { name := "fnPyPISpellings", fn := fun _ => fun
  | [d] => { results := [.lit (.bool true)], args := [d] }
  | _ => none }
def fnPyPISpellingsRow : OpenClaim := { program := "ytlijjnjpomnphaagreatdoor", sum := "c1994ac775d57c0e840c84ac158119cbb625e37dd5d15e56282abc8e81b6bc2c", func := "pub-primogeniture/laws.FnPyPISpellings", spec := "fnPyPISpellings", inPlace := ["internal/abi.NoEscape", "internal/bytealg.MakeNoZero", "internal/bytealg.abigen_runtime_cmpstring", "math/bits.Add64"], unfollowed := true, recurses := true, named := ["unicode/utf8.first", "unicode/utf8.acceptRanges", "unicode.CaseRanges", "pub-primogeniture/pub/scalibr/semantic.ErrInvalidVersion", "io.EOF", "pub-primogeniture/pub/bigall.errInvalSep", "pub-primogeniture/pub/bigall.errNoDigits"], apart := false, laid := [("unicode/utf8.acceptRanges", laid_unicode_utf8_acceptRanges), ("io.EOF", laid_io_EOF), ("pub-primogeniture/pub/bigall.errNoDigits", laid_pub_primogeniture_pub_bigall_errNoDigits), ("pub-primogeniture/pub/bigall.errInvalSep", laid_pub_primogeniture_pub_bigall_errInvalSep), ("pub-primogeniture/pub/scalibr/semantic.ErrInvalidVersion", laid_pub_primogeniture_pub_scalibr_semantic_ErrInvalidVersion), ("unicode.CaseRanges", laid_unicode_CaseRanges), ("unicode/utf8.first", laid_unicode_utf8_first)] }
def FnPyPISpellingsSaid : Prop := fnPyPISpellingsRow.holds Tryz.pinned (OpenSpec.ofChange fnPyPISpellingsSpec)

/-- ITS FALSE NEIGHBOUR: 'it returns false'. Refute it at one input. -/
def fnPyPISpellingsWrong : ChangeSpec := { name := "fnPyPISpellings", fn := fun _ => fun
  | [d] => { results := [.lit (.bool false)], args := [d] }
  | _ => none }
def FnPyPISpellingsWrongFalsely : Prop := fnPyPISpellingsRow.holds Tryz.pinned (OpenSpec.ofChange fnPyPISpellingsWrong)

/-- 'laws.FnPyPINumbers': WHATEVER THE INPUT: true; the input reads as it did. -/
def fnPyPINumbersSpec : ChangeSpec := { name := "fnPyPINumbers", fn := fun _ => fun
  | [d1, d2, d3, d4] => { results := [.lit (.bool true)], args := [d1, d2, d3, d4] }
  | _ => none }
def fnPyPINumbersRow : OpenClaim := { program := "ytlijjnjpomnphaagreatdoor", sum := "c1994ac775d57c0e840c84ac158119cbb625e37dd5d15e56282abc8e81b6bc2c", func := "pub-primogeniture/laws.FnPyPINumbers", spec := "fnPyPINumbers", inPlace := ["internal/abi.NoEscape", "internal/bytealg.MakeNoZero", "internal/bytealg.abigen_runtime_cmpstring", "math/bits.Add64"], unfollowed := true, recurses := true, named := ["unicode/utf8.first", "unicode/utf8.acceptRanges", "unicode.CaseRanges", "pub-primogeniture/pub/scalibr/semantic.ErrInvalidVersion", "io.EOF", "pub-primogeniture/pub/bigall.errInvalSep", "pub-primogeniture/pub/bigall.errNoDigits"], apart := false, laid := [("unicode/utf8.acceptRanges", laid_unicode_utf8_acceptRanges), ("io.EOF", laid_io_EOF), ("pub-primogeniture/pub/bigall.errNoDigits", laid_pub_primogeniture_pub_bigall_errNoDigits), ("pub-primogeniture/pub/bigall.errInvalSep", laid_pub_primogeniture_pub_bigall_errInvalSep), ("pub-primogeniture/pub/scalibr/semantic.ErrInvalidVersion", laid_pub_primogeniture_pub_scalibr_semantic_ErrInvalidVersion), ("unicode.CaseRanges", laid_unicode_CaseRanges), ("unicode/utf8.first", laid_unicode_utf8_first)] }
def FnPyPINumbersSaid : Prop := fnPyPINumbersRow.holds Tryz.pinned (OpenSpec.ofChange fnPyPINumbersSpec)

/-- ITS FALSE NEIGHBOUR: 'it returns false'. Refute it at one input. -/
def fnPyPINumbersWrong : ChangeSpec := { name := "fnPyPINumbers", fn := fun _ => fun
  | [d1, d2, d3, d4] => { results := [.lit (.bool false)], args := [d1, d2, d3, d4] }
  | _ => none }
def FnPyPINumbersWrongFalsely : Prop := fnPyPINumbersRow.holds Tryz.pinned (OpenSpec.ofChange fnPyPINumbersWrong)

/-- 'laws.FnPyPIOrder': WHATEVER THE INPUT: true; the input reads as it did. -/
def fnPyPIOrderSpec : ChangeSpec := { name := "fnPyPIOrder", fn := fun _ => fun
  | [d1, d2, d3] => { results := [.lit (.bool true)], args := [d1, d2, d3] }
  | _ => none }
def fnPyPIOrderRow : OpenClaim := { program := "ytlijjnjpomnphaagreatdoor", sum := "c1994ac775d57c0e840c84ac158119cbb625e37dd5d15e56282abc8e81b6bc2c", func := "pub-primogeniture/laws.FnPyPIOrder", spec := "fnPyPIOrder", inPlace := ["internal/abi.NoEscape", "internal/bytealg.MakeNoZero", "internal/bytealg.abigen_runtime_cmpstring", "math/bits.Add64"], unfollowed := true, recurses := true, named := ["unicode/utf8.first", "unicode/utf8.acceptRanges", "unicode.CaseRanges", "pub-primogeniture/pub/scalibr/semantic.ErrInvalidVersion", "io.EOF", "pub-primogeniture/pub/bigall.errInvalSep", "pub-primogeniture/pub/bigall.errNoDigits"], apart := false, laid := [("unicode/utf8.acceptRanges", laid_unicode_utf8_acceptRanges), ("io.EOF", laid_io_EOF), ("pub-primogeniture/pub/bigall.errNoDigits", laid_pub_primogeniture_pub_bigall_errNoDigits), ("pub-primogeniture/pub/bigall.errInvalSep", laid_pub_primogeniture_pub_bigall_errInvalSep), ("pub-primogeniture/pub/scalibr/semantic.ErrInvalidVersion", laid_pub_primogeniture_pub_scalibr_semantic_ErrInvalidVersion), ("unicode.CaseRanges", laid_unicode_CaseRanges), ("unicode/utf8.first", laid_unicode_utf8_first)] }
def FnPyPIOrderSaid : Prop := fnPyPIOrderRow.holds Tryz.pinned (OpenSpec.ofChange fnPyPIOrderSpec)

/-- ITS FALSE NEIGHBOUR: 'it returns false'. Refute it at one input. -/
def fnPyPIOrderWrong : ChangeSpec := { name := "fnPyPIOrder", fn := fun _ => fun
  | [d1, d2, d3] => { results := [.lit (.bool false)], args := [d1, d2, d3] }
  | _ => none }
def FnPyPIOrderWrongFalsely : Prop := fnPyPIOrderRow.holds Tryz.pinned (OpenSpec.ofChange fnPyPIOrderWrong)

/-- 'laws.FnPyPISorted': WHATEVER THE INPUT: true; the input reads as it did. -/
def fnPyPISortedSpec : ChangeSpec := { name := "fnPyPISorted", fn := fun _ => fun
  | [d] => { results := [.lit (.bool true)], args := [d] }
  | _ => none }
def fnPyPISortedRow : OpenClaim := { program := "ytlijjnjpomnphaagreatdoor", sum := "c1994ac775d57c0e840c84ac158119cbb625e37dd5d15e56282abc8e81b6bc2c", func := "pub-primogeniture/laws.FnPyPISorted", spec := "fnPyPISorted", inPlace := ["internal/abi.NoEscape", "internal/bytealg.MakeNoZero", "internal/bytealg.abigen_runtime_cmpstring", "math/bits.Add64"], unfollowed := true, recurses := true, named := ["unicode/utf8.first", "unicode/utf8.acceptRanges", "unicode.CaseRanges", "pub-primogeniture/pub/scalibr/semantic.ErrInvalidVersion", "io.EOF", "pub-primogeniture/pub/bigall.errInvalSep", "pub-primogeniture/pub/bigall.errNoDigits"], apart := false, laid := [("unicode/utf8.acceptRanges", laid_unicode_utf8_acceptRanges), ("io.EOF", laid_io_EOF), ("pub-primogeniture/pub/bigall.errNoDigits", laid_pub_primogeniture_pub_bigall_errNoDigits), ("pub-primogeniture/pub/bigall.errInvalSep", laid_pub_primogeniture_pub_bigall_errInvalSep), ("pub-primogeniture/pub/scalibr/semantic.ErrInvalidVersion", laid_pub_primogeniture_pub_scalibr_semantic_ErrInvalidVersion), ("unicode.CaseRanges", laid_unicode_CaseRanges), ("unicode/utf8.first", laid_unicode_utf8_first)] }
def FnPyPISortedSaid : Prop := fnPyPISortedRow.holds Tryz.pinned (OpenSpec.ofChange fnPyPISortedSpec)

/-- ITS FALSE NEIGHBOUR: 'it returns false'. Refute it at one input. -/
def fnPyPISortedWrong : ChangeSpec := { name := "fnPyPISorted", fn := fun _ => fun
  | [d] => { results := [.lit (.bool false)], args := [d] }
  | _ => none }
def FnPyPISortedWrongFalsely : Prop := fnPyPISortedRow.holds Tryz.pinned (OpenSpec.ofChange fnPyPISortedWrong)

/-- 'laws.FnPyPIStages': WHATEVER THE INPUT: true; the input reads as it did. -/
def fnPyPIStagesSpec : ChangeSpec := { name := "fnPyPIStages", fn := fun _ => fun
  | [d1, d2] => { results := [.lit (.bool true)], args := [d1, d2] }
  | _ => none }
def fnPyPIStagesRow : OpenClaim := { program := "ytlijjnjpomnphaagreatdoor", sum := "c1994ac775d57c0e840c84ac158119cbb625e37dd5d15e56282abc8e81b6bc2c", func := "pub-primogeniture/laws.FnPyPIStages", spec := "fnPyPIStages", inPlace := ["internal/abi.NoEscape", "internal/bytealg.MakeNoZero", "internal/bytealg.abigen_runtime_cmpstring", "math/bits.Add64"], unfollowed := true, recurses := true, named := ["unicode/utf8.first", "unicode/utf8.acceptRanges", "unicode.CaseRanges", "pub-primogeniture/pub/scalibr/semantic.ErrInvalidVersion", "io.EOF", "pub-primogeniture/pub/bigall.errInvalSep", "pub-primogeniture/pub/bigall.errNoDigits"], apart := false, laid := [("unicode/utf8.acceptRanges", laid_unicode_utf8_acceptRanges), ("io.EOF", laid_io_EOF), ("pub-primogeniture/pub/bigall.errNoDigits", laid_pub_primogeniture_pub_bigall_errNoDigits), ("pub-primogeniture/pub/bigall.errInvalSep", laid_pub_primogeniture_pub_bigall_errInvalSep), ("pub-primogeniture/pub/scalibr/semantic.ErrInvalidVersion", laid_pub_primogeniture_pub_scalibr_semantic_ErrInvalidVersion), ("unicode.CaseRanges", laid_unicode_CaseRanges), ("unicode/utf8.first", laid_unicode_utf8_first)] }
def FnPyPIStagesSaid : Prop := fnPyPIStagesRow.holds Tryz.pinned (OpenSpec.ofChange fnPyPIStagesSpec)

/-- ITS FALSE NEIGHBOUR: 'it returns false'. Refute it at one input. -/
def fnPyPIStagesWrong : ChangeSpec := { name := "fnPyPIStages", fn := fun _ => fun
  | [d1, d2] => { results := [.lit (.bool false)], args := [d1, d2] }
  | _ => none }
def FnPyPIStagesWrongFalsely : Prop := fnPyPIStagesRow.holds Tryz.pinned (OpenSpec.ofChange fnPyPIStagesWrong)

/-- 'laws.FnPyPILegacy': WHATEVER THE INPUT: true; the input reads as it did. -/
def fnPyPILegacySpec : ChangeSpec := { name := "fnPyPILegacy", fn := fun _ => fun
  | [d1, d2] => { results := [.lit (.bool true)], args := [d1, d2] }
  | _ => none }
def fnPyPILegacyRow : OpenClaim := { program := "ytlijjnjpomnphaagreatdoor", sum := "c1994ac775d57c0e840c84ac158119cbb625e37dd5d15e56282abc8e81b6bc2c", func := "pub-primogeniture/laws.FnPyPILegacy", spec := "fnPyPILegacy", inPlace := ["internal/abi.NoEscape", "internal/bytealg.MakeNoZero", "internal/bytealg.abigen_runtime_cmpstring", "math/bits.Add64"], unfollowed := true, recurses := true, named := ["unicode/utf8.first", "unicode/utf8.acceptRanges", "unicode.CaseRanges", "pub-primogeniture/pub/scalibr/semantic.ErrInvalidVersion", "io.EOF", "pub-primogeniture/pub/bigall.errInvalSep", "pub-primogeniture/pub/bigall.errNoDigits"], apart := false, laid := [("unicode/utf8.acceptRanges", laid_unicode_utf8_acceptRanges), ("io.EOF", laid_io_EOF), ("pub-primogeniture/pub/bigall.errNoDigits", laid_pub_primogeniture_pub_bigall_errNoDigits), ("pub-primogeniture/pub/bigall.errInvalSep", laid_pub_primogeniture_pub_bigall_errInvalSep), ("pub-primogeniture/pub/scalibr/semantic.ErrInvalidVersion", laid_pub_primogeniture_pub_scalibr_semantic_ErrInvalidVersion), ("unicode.CaseRanges", laid_unicode_CaseRanges), ("unicode/utf8.first", laid_unicode_utf8_first)] }
def FnPyPILegacySaid : Prop := fnPyPILegacyRow.holds Tryz.pinned (OpenSpec.ofChange fnPyPILegacySpec)

/-- ITS FALSE NEIGHBOUR: 'it returns false'. Refute it at one input. -/
def fnPyPILegacyWrong : ChangeSpec := { name := "fnPyPILegacy", fn := fun _ => fun
  | [d1, d2] => { results := [.lit (.bool false)], args := [d1, d2] }
  | _ => none }
def FnPyPILegacyWrongFalsely : Prop := fnPyPILegacyRow.holds Tryz.pinned (OpenSpec.ofChange fnPyPILegacyWrong)

/-- 'laws.FnPyPIBack': WHATEVER THE INPUT: true; the input reads as it did. -/
def fnPyPIBackSpec : ChangeSpec := { name := "fnPyPIBack", fn := fun _ => fun
  | [d] => { results := [.lit (.bool true)], args := [d] }
  | _ => none }
def fnPyPIBackRow : OpenClaim := { program := "ytlijjnjpomnphaagreatdoor", sum := "c1994ac775d57c0e840c84ac158119cbb625e37dd5d15e56282abc8e81b6bc2c", func := "pub-primogeniture/laws.FnPyPIBack", spec := "fnPyPIBack", inPlace := ["internal/abi.NoEscape", "internal/bytealg.MakeNoZero", "internal/bytealg.abigen_runtime_cmpstring", "math/bits.Add64"], unfollowed := true, recurses := true, named := ["unicode/utf8.first", "unicode/utf8.acceptRanges", "unicode.CaseRanges", "pub-primogeniture/pub/scalibr/semantic.ErrInvalidVersion", "io.EOF", "pub-primogeniture/pub/bigall.errInvalSep", "pub-primogeniture/pub/bigall.errNoDigits"], apart := false, laid := [("unicode/utf8.acceptRanges", laid_unicode_utf8_acceptRanges), ("io.EOF", laid_io_EOF), ("pub-primogeniture/pub/bigall.errNoDigits", laid_pub_primogeniture_pub_bigall_errNoDigits), ("pub-primogeniture/pub/bigall.errInvalSep", laid_pub_primogeniture_pub_bigall_errInvalSep), ("pub-primogeniture/pub/scalibr/semantic.ErrInvalidVersion", laid_pub_primogeniture_pub_scalibr_semantic_ErrInvalidVersion), ("unicode.CaseRanges", laid_unicode_CaseRanges), ("unicode/utf8.first", laid_unicode_utf8_first)] }
def FnPyPIBackSaid : Prop := fnPyPIBackRow.holds Tryz.pinned (OpenSpec.ofChange fnPyPIBackSpec)

/-- ITS FALSE NEIGHBOUR: 'it returns false'. Refute it at one input. -/
def fnPyPIBackWrong : ChangeSpec := { name := "fnPyPIBack", fn := fun _ => fun
  | [d] => { results := [.lit (.bool false)], args := [d] }
  | _ => none }
def FnPyPIBackWrongFalsely : Prop := fnPyPIBackRow.holds Tryz.pinned (OpenSpec.ofChange fnPyPIBackWrong)

/-- 'laws.FnPyPIBuiltPair': WHATEVER THE INPUT: true; the input reads as it did. -/
def fnPyPIBuiltPairSpec : ChangeSpec := { name := "fnPyPIBuiltPair", fn := fun _ => fun
  | [d1, d2] => { results := [.lit (.bool true)], args := [d1, d2] }
  | _ => none }
def fnPyPIBuiltPairRow : OpenClaim := { program := "ytlijjnjpomnphaagreatdoor", sum := "c1994ac775d57c0e840c84ac158119cbb625e37dd5d15e56282abc8e81b6bc2c", func := "pub-primogeniture/laws.FnPyPIBuiltPair", spec := "fnPyPIBuiltPair", inPlace := ["internal/abi.NoEscape", "internal/bytealg.MakeNoZero", "internal/bytealg.abigen_runtime_cmpstring", "math/bits.Add64"], unfollowed := true, recurses := true, named := ["unicode/utf8.first", "unicode/utf8.acceptRanges", "unicode.CaseRanges", "pub-primogeniture/pub/scalibr/semantic.ErrInvalidVersion", "io.EOF", "pub-primogeniture/pub/bigall.errInvalSep", "pub-primogeniture/pub/bigall.errNoDigits"], apart := false, laid := [("unicode/utf8.acceptRanges", laid_unicode_utf8_acceptRanges), ("io.EOF", laid_io_EOF), ("pub-primogeniture/pub/bigall.errNoDigits", laid_pub_primogeniture_pub_bigall_errNoDigits), ("pub-primogeniture/pub/bigall.errInvalSep", laid_pub_primogeniture_pub_bigall_errInvalSep), ("pub-primogeniture/pub/scalibr/semantic.ErrInvalidVersion", laid_pub_primogeniture_pub_scalibr_semantic_ErrInvalidVersion), ("unicode.CaseRanges", laid_unicode_CaseRanges), ("unicode/utf8.first", laid_unicode_utf8_first)] }
def FnPyPIBuiltPairSaid : Prop := fnPyPIBuiltPairRow.holds Tryz.pinned (OpenSpec.ofChange fnPyPIBuiltPairSpec)

/-- ITS FALSE NEIGHBOUR: 'it returns false'. Refute it at one input. -/
def fnPyPIBuiltPairWrong : ChangeSpec := { name := "fnPyPIBuiltPair", fn := fun _ => fun
  | [d1, d2] => { results := [.lit (.bool false)], args := [d1, d2] }
  | _ => none }
def FnPyPIBuiltPairWrongFalsely : Prop := fnPyPIBuiltPairRow.holds Tryz.pinned (OpenSpec.ofChange fnPyPIBuiltPairWrong)

/-- 'laws.FnPyPITexts': WHATEVER THE INPUT: true; the input reads as it did. -/
def fnPyPITextsSpec : ChangeSpec := { name := "fnPyPITexts", fn := fun _ => fun
  | [d1, d2] => { results := [.lit (.bool true)], args := [d1, d2] }
  | _ => none }
def fnPyPITextsRow : OpenClaim := { program := "ytlijjnjpomnphaagreatdoor", sum := "c1994ac775d57c0e840c84ac158119cbb625e37dd5d15e56282abc8e81b6bc2c", func := "pub-primogeniture/laws.FnPyPITexts", spec := "fnPyPITexts", inPlace := ["internal/abi.NoEscape", "internal/bytealg.MakeNoZero", "internal/bytealg.abigen_runtime_cmpstring", "math/bits.Add64"], unfollowed := true, recurses := true, named := ["unicode/utf8.first", "unicode/utf8.acceptRanges", "unicode.CaseRanges", "pub-primogeniture/pub/scalibr/semantic.ErrInvalidVersion", "io.EOF", "pub-primogeniture/pub/bigall.errInvalSep", "pub-primogeniture/pub/bigall.errNoDigits"], apart := false, laid := [("unicode/utf8.acceptRanges", laid_unicode_utf8_acceptRanges), ("io.EOF", laid_io_EOF), ("pub-primogeniture/pub/bigall.errNoDigits", laid_pub_primogeniture_pub_bigall_errNoDigits), ("pub-primogeniture/pub/bigall.errInvalSep", laid_pub_primogeniture_pub_bigall_errInvalSep), ("pub-primogeniture/pub/scalibr/semantic.ErrInvalidVersion", laid_pub_primogeniture_pub_scalibr_semantic_ErrInvalidVersion), ("unicode.CaseRanges", laid_unicode_CaseRanges), ("unicode/utf8.first", laid_unicode_utf8_first)] }
def FnPyPITextsSaid : Prop := fnPyPITextsRow.holds Tryz.pinned (OpenSpec.ofChange fnPyPITextsSpec)

/-- ITS FALSE NEIGHBOUR: 'it returns false'. Refute it at one input. -/
def fnPyPITextsWrong : ChangeSpec := { name := "fnPyPITexts", fn := fun _ => fun
  | [d1, d2] => { results := [.lit (.bool false)], args := [d1, d2] }
  | _ => none }
def FnPyPITextsWrongFalsely : Prop := fnPyPITextsRow.holds Tryz.pinned (OpenSpec.ofChange fnPyPITextsWrong)

/- THE SECOND FORM. 'bulk': how many values and letters a reading holds, each counted each time it is reached (what is shared counts as often as it is met; a slice's spare places count too). A statement '..UptoSaid' is the law's where the arguments, and the package variables that the reading takes, are together of bulk at most 1048576: NARROWER than '..Said'. Prove '..Said' where nothing that the law and all that it calls make is longer than what came in: it says more and counts as full. Else prove '..UptoSaid'. A law counts once. -/
mutual
def uptoBulk {H : Type} : DataW H → Nat
  | .lit (.string bytes) => bytes.length + 1
  | .lit _ => 1
  | .nil => 1
  | .ptr d => uptoBulk d + 1
  | .slice elems spare => uptoBulkAll elems + uptoBulkAll spare + 1
  | .agg parts => uptoBulkAll parts + 1
  | .iface _ d => uptoBulk d + 1
  | .map entries => uptoBulkEntries entries + 1
  | .held _ => 1
def uptoBulkAll {H : Type} : List (DataW H) → Nat
  | [] => 0
  | d :: r => uptoBulk d + uptoBulkAll r
def uptoBulkEntries {H : Type} : List (Lit × DataW H) → Nat
  | [] => 0
  | x :: r => uptoBulkEntry x + uptoBulkEntries r
def uptoBulkEntry {H : Type} : Lit × DataW H → Nat
  | (.string bytes, d) => bytes.length + uptoBulk d + 1
  | (_, d) => uptoBulk d + 1
 end
def uptoSmall : (H : Type) → List (DataW H) → Bool := fun _ ds => decide (uptoBulkAll ds ≤ 1048576)
def OpenSpec.upto (s : _root_.Go.ChangeSpec) : _root_.Go.OpenSpec := { _root_.Go.OpenSpec.ofChange s with cond := some uptoSmall }

/-- 'laws.FnPyPIBuilt', WHERE WHAT IT READS IS OF BULK AT MOST 1048576: true; the input reads as it did. -/
def fnPyPIBuiltUptoRow : OpenClaim := { program := "ytlijjnjpomnphaagreatdoor", sum := "c1994ac775d57c0e840c84ac158119cbb625e37dd5d15e56282abc8e81b6bc2c", func := "pub-primogeniture/laws.FnPyPIBuilt", spec := "fnPyPIBuilt", inPlace := ["internal/abi.NoEscape", "internal/bytealg.MakeNoZero", "internal/bytealg.abigen_runtime_cmpstring", "math/bits.Add64"], unfollowed := true, recurses := true, named := ["unicode/utf8.first", "unicode/utf8.acceptRanges", "unicode.CaseRanges", "pub-primogeniture/pub/scalibr/semantic.ErrInvalidVersion", "io.EOF", "pub-primogeniture/pub/bigall.errInvalSep", "pub-primogeniture/pub/bigall.errNoDigits"], apart := false, laid := [("unicode/utf8.acceptRanges", laid_unicode_utf8_acceptRanges), ("io.EOF", laid_io_EOF), ("pub-primogeniture/pub/bigall.errNoDigits", laid_pub_primogeniture_pub_bigall_errNoDigits), ("pub-primogeniture/pub/bigall.errInvalSep", laid_pub_primogeniture_pub_bigall_errInvalSep), ("pub-primogeniture/pub/scalibr/semantic.ErrInvalidVersion", laid_pub_primogeniture_pub_scalibr_semantic_ErrInvalidVersion), ("unicode.CaseRanges", laid_unicode_CaseRanges), ("unicode/utf8.first", laid_unicode_utf8_first)], narrowed := true }
def FnPyPIBuiltUptoSaid : Prop := fnPyPIBuiltUptoRow.holds Tryz.pinned (OpenSpec.upto fnPyPIBuiltSpec)

/-- 'laws.FnPyPIParse', WHERE WHAT IT READS IS OF BULK AT MOST 1048576: true; the input reads as it did. -/
def fnPyPIParseUptoRow : OpenClaim := { program := "ytlijjnjpomnphaagreatdoor", sum := "c1994ac775d57c0e840c84ac158119cbb625e37dd5d15e56282abc8e81b6bc2c", func := "pub-primogeniture/laws.FnPyPIParse", spec := "fnPyPIParse", inPlace := ["internal/abi.NoEscape", "internal/bytealg.MakeNoZero", "internal/bytealg.abigen_runtime_cmpstring", "math/bits.Add64"], unfollowed := true, recurses := true, named := ["unicode/utf8.first", "unicode/utf8.acceptRanges", "unicode.CaseRanges", "pub-primogeniture/pub/scalibr/semantic.ErrInvalidVersion", "io.EOF", "pub-primogeniture/pub/bigall.errInvalSep", "pub-primogeniture/pub/bigall.errNoDigits"], apart := false, laid := [("unicode/utf8.acceptRanges", laid_unicode_utf8_acceptRanges), ("io.EOF", laid_io_EOF), ("pub-primogeniture/pub/bigall.errNoDigits", laid_pub_primogeniture_pub_bigall_errNoDigits), ("pub-primogeniture/pub/bigall.errInvalSep", laid_pub_primogeniture_pub_bigall_errInvalSep), ("pub-primogeniture/pub/scalibr/semantic.ErrInvalidVersion", laid_pub_primogeniture_pub_scalibr_semantic_ErrInvalidVersion), ("unicode.CaseRanges", laid_unicode_CaseRanges), ("unicode/utf8.first", laid_unicode_utf8_first)], narrowed := true }
def FnPyPIParseUptoSaid : Prop := fnPyPIParseUptoRow.holds Tryz.pinned (OpenSpec.upto fnPyPIParseSpec)

/-- 'laws.FnPyPISpellings', WHERE WHAT IT READS IS OF BULK AT MOST 1048576: true; the input reads as it did. -/
def fnPyPISpellingsUptoRow : OpenClaim := { program := "ytlijjnjpomnphaagreatdoor", sum := "c1994ac775d57c0e840c84ac158119cbb625e37dd5d15e56282abc8e81b6bc2c", func := "pub-primogeniture/laws.FnPyPISpellings", spec := "fnPyPISpellings", inPlace := ["internal/abi.NoEscape", "internal/bytealg.MakeNoZero", "internal/bytealg.abigen_runtime_cmpstring", "math/bits.Add64"], unfollowed := true, recurses := true, named := ["unicode/utf8.first", "unicode/utf8.acceptRanges", "unicode.CaseRanges", "pub-primogeniture/pub/scalibr/semantic.ErrInvalidVersion", "io.EOF", "pub-primogeniture/pub/bigall.errInvalSep", "pub-primogeniture/pub/bigall.errNoDigits"], apart := false, laid := [("unicode/utf8.acceptRanges", laid_unicode_utf8_acceptRanges), ("io.EOF", laid_io_EOF), ("pub-primogeniture/pub/bigall.errNoDigits", laid_pub_primogeniture_pub_bigall_errNoDigits), ("pub-primogeniture/pub/bigall.errInvalSep", laid_pub_primogeniture_pub_bigall_errInvalSep), ("pub-primogeniture/pub/scalibr/semantic.ErrInvalidVersion", laid_pub_primogeniture_pub_scalibr_semantic_ErrInvalidVersion), ("unicode.CaseRanges", laid_unicode_CaseRanges), ("unicode/utf8.first", laid_unicode_utf8_first)], narrowed := true }
def FnPyPISpellingsUptoSaid : Prop := fnPyPISpellingsUptoRow.holds Tryz.pinned (OpenSpec.upto fnPyPISpellingsSpec)

/-- 'laws.FnPyPINumbers', WHERE WHAT IT READS IS OF BULK AT MOST 1048576: true; the input reads as it did. -/
def fnPyPINumbersUptoRow : OpenClaim := { program := "ytlijjnjpomnphaagreatdoor", sum := "c1994ac775d57c0e840c84ac158119cbb625e37dd5d15e56282abc8e81b6bc2c", func := "pub-primogeniture/laws.FnPyPINumbers", spec := "fnPyPINumbers", inPlace := ["internal/abi.NoEscape", "internal/bytealg.MakeNoZero", "internal/bytealg.abigen_runtime_cmpstring", "math/bits.Add64"], unfollowed := true, recurses := true, named := ["unicode/utf8.first", "unicode/utf8.acceptRanges", "unicode.CaseRanges", "pub-primogeniture/pub/scalibr/semantic.ErrInvalidVersion", "io.EOF", "pub-primogeniture/pub/bigall.errInvalSep", "pub-primogeniture/pub/bigall.errNoDigits"], apart := false, laid := [("unicode/utf8.acceptRanges", laid_unicode_utf8_acceptRanges), ("io.EOF", laid_io_EOF), ("pub-primogeniture/pub/bigall.errNoDigits", laid_pub_primogeniture_pub_bigall_errNoDigits), ("pub-primogeniture/pub/bigall.errInvalSep", laid_pub_primogeniture_pub_bigall_errInvalSep), ("pub-primogeniture/pub/scalibr/semantic.ErrInvalidVersion", laid_pub_primogeniture_pub_scalibr_semantic_ErrInvalidVersion), ("unicode.CaseRanges", laid_unicode_CaseRanges), ("unicode/utf8.first", laid_unicode_utf8_first)], narrowed := true }
def FnPyPINumbersUptoSaid : Prop := fnPyPINumbersUptoRow.holds Tryz.pinned (OpenSpec.upto fnPyPINumbersSpec)

/-- 'laws.FnPyPIOrder', WHERE WHAT IT READS IS OF BULK AT MOST 1048576: true; the input reads as it did. -/
def fnPyPIOrderUptoRow : OpenClaim := { program := "ytlijjnjpomnphaagreatdoor", sum := "c1994ac775d57c0e840c84ac158119cbb625e37dd5d15e56282abc8e81b6bc2c", func := "pub-primogeniture/laws.FnPyPIOrder", spec := "fnPyPIOrder", inPlace := ["internal/abi.NoEscape", "internal/bytealg.MakeNoZero", "internal/bytealg.abigen_runtime_cmpstring", "math/bits.Add64"], unfollowed := true, recurses := true, named := ["unicode/utf8.first", "unicode/utf8.acceptRanges", "unicode.CaseRanges", "pub-primogeniture/pub/scalibr/semantic.ErrInvalidVersion", "io.EOF", "pub-primogeniture/pub/bigall.errInvalSep", "pub-primogeniture/pub/bigall.errNoDigits"], apart := false, laid := [("unicode/utf8.acceptRanges", laid_unicode_utf8_acceptRanges), ("io.EOF", laid_io_EOF), ("pub-primogeniture/pub/bigall.errNoDigits", laid_pub_primogeniture_pub_bigall_errNoDigits), ("pub-primogeniture/pub/bigall.errInvalSep", laid_pub_primogeniture_pub_bigall_errInvalSep), ("pub-primogeniture/pub/scalibr/semantic.ErrInvalidVersion", laid_pub_primogeniture_pub_scalibr_semantic_ErrInvalidVersion), ("unicode.CaseRanges", laid_unicode_CaseRanges), ("unicode/utf8.first", laid_unicode_utf8_first)], narrowed := true }
def FnPyPIOrderUptoSaid : Prop := fnPyPIOrderUptoRow.holds Tryz.pinned (OpenSpec.upto fnPyPIOrderSpec)

/-- 'laws.FnPyPISorted', WHERE WHAT IT READS IS OF BULK AT MOST 1048576: true; the input reads as it did. -/
def fnPyPISortedUptoRow : OpenClaim := { program := "ytlijjnjpomnphaagreatdoor", sum := "c1994ac775d57c0e840c84ac158119cbb625e37dd5d15e56282abc8e81b6bc2c", func := "pub-primogeniture/laws.FnPyPISorted", spec := "fnPyPISorted", inPlace := ["internal/abi.NoEscape", "internal/bytealg.MakeNoZero", "internal/bytealg.abigen_runtime_cmpstring", "math/bits.Add64"], unfollowed := true, recurses := true, named := ["unicode/utf8.first", "unicode/utf8.acceptRanges", "unicode.CaseRanges", "pub-primogeniture/pub/scalibr/semantic.ErrInvalidVersion", "io.EOF", "pub-primogeniture/pub/bigall.errInvalSep", "pub-primogeniture/pub/bigall.errNoDigits"], apart := false, laid := [("unicode/utf8.acceptRanges", laid_unicode_utf8_acceptRanges), ("io.EOF", laid_io_EOF), ("pub-primogeniture/pub/bigall.errNoDigits", laid_pub_primogeniture_pub_bigall_errNoDigits), ("pub-primogeniture/pub/bigall.errInvalSep", laid_pub_primogeniture_pub_bigall_errInvalSep), ("pub-primogeniture/pub/scalibr/semantic.ErrInvalidVersion", laid_pub_primogeniture_pub_scalibr_semantic_ErrInvalidVersion), ("unicode.CaseRanges", laid_unicode_CaseRanges), ("unicode/utf8.first", laid_unicode_utf8_first)], narrowed := true }
def FnPyPISortedUptoSaid : Prop := fnPyPISortedUptoRow.holds Tryz.pinned (OpenSpec.upto fnPyPISortedSpec)

/-- 'laws.FnPyPIStages', WHERE WHAT IT READS IS OF BULK AT MOST 1048576: true; the input reads as it did. -/
def fnPyPIStagesUptoRow : OpenClaim := { program := "ytlijjnjpomnphaagreatdoor", sum := "c1994ac775d57c0e840c84ac158119cbb625e37dd5d15e56282abc8e81b6bc2c", func := "pub-primogeniture/laws.FnPyPIStages", spec := "fnPyPIStages", inPlace := ["internal/abi.NoEscape", "internal/bytealg.MakeNoZero", "internal/bytealg.abigen_runtime_cmpstring", "math/bits.Add64"], unfollowed := true, recurses := true, named := ["unicode/utf8.first", "unicode/utf8.acceptRanges", "unicode.CaseRanges", "pub-primogeniture/pub/scalibr/semantic.ErrInvalidVersion", "io.EOF", "pub-primogeniture/pub/bigall.errInvalSep", "pub-primogeniture/pub/bigall.errNoDigits"], apart := false, laid := [("unicode/utf8.acceptRanges", laid_unicode_utf8_acceptRanges), ("io.EOF", laid_io_EOF), ("pub-primogeniture/pub/bigall.errNoDigits", laid_pub_primogeniture_pub_bigall_errNoDigits), ("pub-primogeniture/pub/bigall.errInvalSep", laid_pub_primogeniture_pub_bigall_errInvalSep), ("pub-primogeniture/pub/scalibr/semantic.ErrInvalidVersion", laid_pub_primogeniture_pub_scalibr_semantic_ErrInvalidVersion), ("unicode.CaseRanges", laid_unicode_CaseRanges), ("unicode/utf8.first", laid_unicode_utf8_first)], narrowed := true }
def FnPyPIStagesUptoSaid : Prop := fnPyPIStagesUptoRow.holds Tryz.pinned (OpenSpec.upto fnPyPIStagesSpec)

/-- 'laws.FnPyPILegacy', WHERE WHAT IT READS IS OF BULK AT MOST 1048576: true; the input reads as it did. -/
def fnPyPILegacyUptoRow : OpenClaim := { program := "ytlijjnjpomnphaagreatdoor", sum := "c1994ac775d57c0e840c84ac158119cbb625e37dd5d15e56282abc8e81b6bc2c", func := "pub-primogeniture/laws.FnPyPILegacy", spec := "fnPyPILegacy", inPlace := ["internal/abi.NoEscape", "internal/bytealg.MakeNoZero", "internal/bytealg.abigen_runtime_cmpstring", "math/bits.Add64"], unfollowed := true, recurses := true, named := ["unicode/utf8.first", "unicode/utf8.acceptRanges", "unicode.CaseRanges", "pub-primogeniture/pub/scalibr/semantic.ErrInvalidVersion", "io.EOF", "pub-primogeniture/pub/bigall.errInvalSep", "pub-primogeniture/pub/bigall.errNoDigits"], apart := false, laid := [("unicode/utf8.acceptRanges", laid_unicode_utf8_acceptRanges), ("io.EOF", laid_io_EOF), ("pub-primogeniture/pub/bigall.errNoDigits", laid_pub_primogeniture_pub_bigall_errNoDigits), ("pub-primogeniture/pub/bigall.errInvalSep", laid_pub_primogeniture_pub_bigall_errInvalSep), ("pub-primogeniture/pub/scalibr/semantic.ErrInvalidVersion", laid_pub_primogeniture_pub_scalibr_semantic_ErrInvalidVersion), ("unicode.CaseRanges", laid_unicode_CaseRanges), ("unicode/utf8.first", laid_unicode_utf8_first)], narrowed := true }
def FnPyPILegacyUptoSaid : Prop := fnPyPILegacyUptoRow.holds Tryz.pinned (OpenSpec.upto fnPyPILegacySpec)

/-- 'laws.FnPyPIBack', WHERE WHAT IT READS IS OF BULK AT MOST 1048576: true; the input reads as it did. -/
def fnPyPIBackUptoRow : OpenClaim := { program := "ytlijjnjpomnphaagreatdoor", sum := "c1994ac775d57c0e840c84ac158119cbb625e37dd5d15e56282abc8e81b6bc2c", func := "pub-primogeniture/laws.FnPyPIBack", spec := "fnPyPIBack", inPlace := ["internal/abi.NoEscape", "internal/bytealg.MakeNoZero", "internal/bytealg.abigen_runtime_cmpstring", "math/bits.Add64"], unfollowed := true, recurses := true, named := ["unicode/utf8.first", "unicode/utf8.acceptRanges", "unicode.CaseRanges", "pub-primogeniture/pub/scalibr/semantic.ErrInvalidVersion", "io.EOF", "pub-primogeniture/pub/bigall.errInvalSep", "pub-primogeniture/pub/bigall.errNoDigits"], apart := false, laid := [("unicode/utf8.acceptRanges", laid_unicode_utf8_acceptRanges), ("io.EOF", laid_io_EOF), ("pub-primogeniture/pub/bigall.errNoDigits", laid_pub_primogeniture_pub_bigall_errNoDigits), ("pub-primogeniture/pub/bigall.errInvalSep", laid_pub_primogeniture_pub_bigall_errInvalSep), ("pub-primogeniture/pub/scalibr/semantic.ErrInvalidVersion", laid_pub_primogeniture_pub_scalibr_semantic_ErrInvalidVersion), ("unicode.CaseRanges", laid_unicode_CaseRanges), ("unicode/utf8.first", laid_unicode_utf8_first)], narrowed := true }
def FnPyPIBackUptoSaid : Prop := fnPyPIBackUptoRow.holds Tryz.pinned (OpenSpec.upto fnPyPIBackSpec)

/-- 'laws.FnPyPIBuiltPair', WHERE WHAT IT READS IS OF BULK AT MOST 1048576: true; the input reads as it did. -/
def fnPyPIBuiltPairUptoRow : OpenClaim := { program := "ytlijjnjpomnphaagreatdoor", sum := "c1994ac775d57c0e840c84ac158119cbb625e37dd5d15e56282abc8e81b6bc2c", func := "pub-primogeniture/laws.FnPyPIBuiltPair", spec := "fnPyPIBuiltPair", inPlace := ["internal/abi.NoEscape", "internal/bytealg.MakeNoZero", "internal/bytealg.abigen_runtime_cmpstring", "math/bits.Add64"], unfollowed := true, recurses := true, named := ["unicode/utf8.first", "unicode/utf8.acceptRanges", "unicode.CaseRanges", "pub-primogeniture/pub/scalibr/semantic.ErrInvalidVersion", "io.EOF", "pub-primogeniture/pub/bigall.errInvalSep", "pub-primogeniture/pub/bigall.errNoDigits"], apart := false, laid := [("unicode/utf8.acceptRanges", laid_unicode_utf8_acceptRanges), ("io.EOF", laid_io_EOF), ("pub-primogeniture/pub/bigall.errNoDigits", laid_pub_primogeniture_pub_bigall_errNoDigits), ("pub-primogeniture/pub/bigall.errInvalSep", laid_pub_primogeniture_pub_bigall_errInvalSep), ("pub-primogeniture/pub/scalibr/semantic.ErrInvalidVersion", laid_pub_primogeniture_pub_scalibr_semantic_ErrInvalidVersion), ("unicode.CaseRanges", laid_unicode_CaseRanges), ("unicode/utf8.first", laid_unicode_utf8_first)], narrowed := true }
def FnPyPIBuiltPairUptoSaid : Prop := fnPyPIBuiltPairUptoRow.holds Tryz.pinned (OpenSpec.upto fnPyPIBuiltPairSpec)

/-- 'laws.FnPyPITexts', WHERE WHAT IT READS IS OF BULK AT MOST 1048576: true; the input reads as it did. -/
def fnPyPITextsUptoRow : OpenClaim := { program := "ytlijjnjpomnphaagreatdoor", sum := "c1994ac775d57c0e840c84ac158119cbb625e37dd5d15e56282abc8e81b6bc2c", func := "pub-primogeniture/laws.FnPyPITexts", spec := "fnPyPITexts", inPlace := ["internal/abi.NoEscape", "internal/bytealg.MakeNoZero", "internal/bytealg.abigen_runtime_cmpstring", "math/bits.Add64"], unfollowed := true, recurses := true, named := ["unicode/utf8.first", "unicode/utf8.acceptRanges", "unicode.CaseRanges", "pub-primogeniture/pub/scalibr/semantic.ErrInvalidVersion", "io.EOF", "pub-primogeniture/pub/bigall.errInvalSep", "pub-primogeniture/pub/bigall.errNoDigits"], apart := false, laid := [("unicode/utf8.acceptRanges", laid_unicode_utf8_acceptRanges), ("io.EOF", laid_io_EOF), ("pub-primogeniture/pub/bigall.errNoDigits", laid_pub_primogeniture_pub_bigall_errNoDigits), ("pub-primogeniture/pub/bigall.errInvalSep", laid_pub_primogeniture_pub_bigall_errInvalSep), ("pub-primogeniture/pub/scalibr/semantic.ErrInvalidVersion", laid_pub_primogeniture_pub_scalibr_semantic_ErrInvalidVersion), ("unicode.CaseRanges", laid_unicode_CaseRanges), ("unicode/utf8.first", laid_unicode_utf8_first)], narrowed := true }
def FnPyPITextsUptoSaid : Prop := fnPyPITextsUptoRow.holds Tryz.pinned (OpenSpec.upto fnPyPITextsSpec)

end Rows
end Go.Proofs.YtlijjnjpomnphaaGreatDoor
