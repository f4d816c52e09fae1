/-
  NARROWER THAN 'FOR EVERY INPUT', by the rows' own cells (each row's printed sentence says how): FnAlpineBuilt: laid · FnAlpineParse: laid · FnAlpineRest: laid · FnAlpineNumbers: laid · FnAlpineOrder: laid · FnAlpineStages: laid.
  DERIVED. THE GIVEN ROWS OF THIS SEAT. 6 by the template 'for every input the law returns true; each argument reads behind the call as it read before'; 0 by the template 'total and deterministic' (their statements: YtapaijpglfmfgaaDoorTotals.lean).
  GIVEN WITH THE SEED: the statements are not yours to turn. If you find one false, say at which input.
  Laid BY PROGRAM, IN A SANDBOX (cutbox-rows.mjs): the forced cells as the released guide's own fill.sh prints them over the translation a57024015e2d8593… (all of the seat's roots in one cut). By AI agents, Wed Nov 11 2026. No macro, syntax, notation, axiom, sorry.
-/
import Derived.Test.YtapaijpglfmfgaaDoorChecked
import GoSem.Claim
import GoSem.ClaimJoined
import GoSem.ClaimMapViews
import Derived.JoinedTies
import Derived.KernelRfl
namespace Go.Proofs.YtapaijpglfmfgaaDoor
/- THE CELL 'sum', in the pinned program and in every row, IS THE sha256 OF THE DUMP (.gsa) THAT YtapaijpglfmfgaaDoorProg.lean LOADS. Nothing in Lean hashes anything: it is a label: what it is worth is what the hold of that sum in a sandbox is worth. -/
noncomputable def Tryd.pinned : Pinned := { name := "ytapaijpglfmfgaadoor", sum := "a57024015e2d8593d3b55f70f9cd8c1f4007478f7cfd48a82d519bdc49639a6e", checked := Tryd.checked }
namespace Rows
def none {H : Type} : Left H := { results := [], args := [] }

/- WHAT THE LISTED PACKAGE-LEVEL VARIABLES READ AS WHEN THE CALL BEGINS. Each datum BY PROGRAM (the guide's laid-datum.mjs) off the statement by which the dump's own 'gosem.cut.vars' lays the variable. In a bare row this is a premise. The card (YtapaijpglfmfgaaDoorCards.lean) ties it to the program's text. -/
def laid_io_EOF {H : Type} : DataW H := .iface "*errors.errorString" (.ptr (.agg [.lit (.string [69, 79, 70])]))
def laid_pub_primogeniture_pub_bigall_errNoDigits {H : Type} : DataW H := .iface "*errors.errorString" (.ptr (.agg [.lit (.string [110, 117, 109, 98, 101, 114, 32, 104, 97, 115, 32, 110, 111, 32, 100, 105, 103, 105, 116, 115])]))
def laid_pub_primogeniture_pub_bigall_errInvalSep {H : Type} : DataW H := .iface "*errors.errorString" (.ptr (.agg [.lit (.string [39, 95, 39, 32, 109, 117, 115, 116, 32, 115, 101, 112, 97, 114, 97, 116, 101, 32, 115, 117, 99, 99, 101, 115, 115, 105, 118, 101, 32, 100, 105, 103, 105, 116, 115])]))
def laid_pub_primogeniture_pub_scalibr_semantic_ErrInvalidVersion {H : Type} : DataW H := .iface "*errors.errorString" (.ptr (.agg [.lit (.string [105, 110, 118, 97, 108, 105, 100, 32, 118, 101, 114, 115, 105, 111, 110])]))

/-- 'laws.FnAlpineBuilt': WHATEVER THE INPUT: true; the input reads as it did. -/
def fnAlpineBuiltSpec : ChangeSpec := { name := "fnAlpineBuilt", fn := fun _ => fun
  | [d] => { results := [.lit (.bool true)], args := [d] }
  | _ => none }
def fnAlpineBuiltRow : OpenClaim := { program := "ytapaijpglfmfgaadoor", sum := "a57024015e2d8593d3b55f70f9cd8c1f4007478f7cfd48a82d519bdc49639a6e", func := "pub-primogeniture/laws.FnAlpineBuilt", spec := "fnAlpineBuilt", inPlace := ["math/bits.Add64"], unfollowed := true, recurses := true, named := ["pub-primogeniture/pub/scalibr/semantic.ErrInvalidVersion", "io.EOF", "pub-primogeniture/pub/bigall.errInvalSep", "pub-primogeniture/pub/bigall.errNoDigits"], apart := false, laid := [("io.EOF", laid_io_EOF), ("pub-primogeniture/pub/bigall.errNoDigits", laid_pub_primogeniture_pub_bigall_errNoDigits), ("pub-primogeniture/pub/bigall.errInvalSep", laid_pub_primogeniture_pub_bigall_errInvalSep), ("pub-primogeniture/pub/scalibr/semantic.ErrInvalidVersion", laid_pub_primogeniture_pub_scalibr_semantic_ErrInvalidVersion)] }
def FnAlpineBuiltSaid : Prop := fnAlpineBuiltRow.holds Tryd.pinned (OpenSpec.ofChange fnAlpineBuiltSpec)

/-- ITS FALSE NEIGHBOUR: 'it returns false'. Refute it at one input. -/
def fnAlpineBuiltWrong : ChangeSpec := { name := "fnAlpineBuilt", fn := fun _ => fun
  | [d] => { results := [.lit (.bool false)], args := [d] }
  | _ => none }
def FnAlpineBuiltWrongFalsely : Prop := fnAlpineBuiltRow.holds Tryd.pinned (OpenSpec.ofChange fnAlpineBuiltWrong)

/-- 'laws.FnAlpineParse': WHATEVER THE INPUT: true; the input reads as it did. -/
def fnAlpineParseSpec : ChangeSpec := { name := "fnAlpineParse", fn := fun _ => fun
  | [d] => { results := [.lit (.bool true)], args := [d] }
  | _ => none }
def fnAlpineParseRow : OpenClaim := { program := "ytapaijpglfmfgaadoor", sum := "a57024015e2d8593d3b55f70f9cd8c1f4007478f7cfd48a82d519bdc49639a6e", func := "pub-primogeniture/laws.FnAlpineParse", spec := "fnAlpineParse", inPlace := ["math/bits.Add64"], unfollowed := true, recurses := true, named := ["pub-primogeniture/pub/scalibr/semantic.ErrInvalidVersion", "io.EOF", "pub-primogeniture/pub/bigall.errInvalSep", "pub-primogeniture/pub/bigall.errNoDigits"], apart := false, laid := [("io.EOF", laid_io_EOF), ("pub-primogeniture/pub/bigall.errNoDigits", laid_pub_primogeniture_pub_bigall_errNoDigits), ("pub-primogeniture/pub/bigall.errInvalSep", laid_pub_primogeniture_pub_bigall_errInvalSep), ("pub-primogeniture/pub/scalibr/semantic.ErrInvalidVersion", laid_pub_primogeniture_pub_scalibr_semantic_ErrInvalidVersion)] }
def FnAlpineParseSaid : Prop := fnAlpineParseRow.holds Tryd.pinned (OpenSpec.ofChange fnAlpineParseSpec)

/-- ITS FALSE NEIGHBOUR: 'it returns false'. Refute it at one input. -/
def fnAlpineParseWrong : ChangeSpec := { name := "fnAlpineParse", fn := fun _ => fun
  | [d] => { results := [.lit (.bool false)], args := [d] }
  | _ => none }
def FnAlpineParseWrongFalsely : Prop := fnAlpineParseRow.holds Tryd.pinned (OpenSpec.ofChange fnAlpineParseWrong)

/-- 'laws.FnAlpineRest': WHATEVER THE INPUT: true; the input reads as it did. -/
def fnAlpineRestSpec : ChangeSpec := { name := "fnAlpineRest", fn := fun _ => fun
  | [d1, d2] => { results := [.lit (.bool true)], args := [d1, d2] }
  | _ => none }
def fnAlpineRestRow : OpenClaim := { program := "ytapaijpglfmfgaadoor", sum := "a57024015e2d8593d3b55f70f9cd8c1f4007478f7cfd48a82d519bdc49639a6e", func := "pub-primogeniture/laws.FnAlpineRest", spec := "fnAlpineRest", inPlace := ["math/bits.Add64"], unfollowed := true, recurses := true, named := ["pub-primogeniture/pub/scalibr/semantic.ErrInvalidVersion", "io.EOF", "pub-primogeniture/pub/bigall.errInvalSep", "pub-primogeniture/pub/bigall.errNoDigits"], apart := false, laid := [("io.EOF", laid_io_EOF), ("pub-primogeniture/pub/bigall.errNoDigits", laid_pub_primogeniture_pub_bigall_errNoDigits), ("pub-primogeniture/pub/bigall.errInvalSep", laid_pub_primogeniture_pub_bigall_errInvalSep), ("pub-primogeniture/pub/scalibr/semantic.ErrInvalidVersion", laid_pub_primogeniture_pub_scalibr_semantic_ErrInvalidVersion)] }
def FnAlpineRestSaid : Prop := fnAlpineRestRow.holds Tryd.pinned (OpenSpec.ofChange fnAlpineRestSpec)

/-- ITS FALSE NEIGHBOUR: 'it returns false'. Refute it at one input. -/
def fnAlpineRestWrong : ChangeSpec := { name := "fnAlpineRest", fn := fun _ => fun
  | [d1, d2] => { results := [.lit (.bool false)], args := [d1, d2] }
  | _ => none }
def FnAlpineRestWrongFalsely : Prop := fnAlpineRestRow.holds Tryd.pinned (OpenSpec.ofChange fnAlpineRestWrong)

/-- 'laws.FnAlpineNumbers': WHATEVER THE INPUT: true; the input reads as it did. -/
def fnAlpineNumbersSpec : ChangeSpec := { name := "fnAlpineNumbers", fn := fun _ => fun
  | [d1, d2, d3, d4, d5, d6] => { results := [.lit (.bool true)], args := [d1, d2, d3, d4, d5, d6] }
  | _ => none }
def fnAlpineNumbersRow : OpenClaim := { program := "ytapaijpglfmfgaadoor", sum := "a57024015e2d8593d3b55f70f9cd8c1f4007478f7cfd48a82d519bdc49639a6e", func := "pub-primogeniture/laws.FnAlpineNumbers", spec := "fnAlpineNumbers", inPlace := ["math/bits.Add64", "internal/bytealg.abigen_runtime_cmpstring"], unfollowed := true, recurses := true, named := ["pub-primogeniture/pub/scalibr/semantic.ErrInvalidVersion", "io.EOF", "pub-primogeniture/pub/bigall.errInvalSep", "pub-primogeniture/pub/bigall.errNoDigits"], apart := false, laid := [("io.EOF", laid_io_EOF), ("pub-primogeniture/pub/bigall.errNoDigits", laid_pub_primogeniture_pub_bigall_errNoDigits), ("pub-primogeniture/pub/bigall.errInvalSep", laid_pub_primogeniture_pub_bigall_errInvalSep), ("pub-primogeniture/pub/scalibr/semantic.ErrInvalidVersion", laid_pub_primogeniture_pub_scalibr_semantic_ErrInvalidVersion)] }
def FnAlpineNumbersSaid : Prop := fnAlpineNumbersRow.holds Tryd.pinned (OpenSpec.ofChange fnAlpineNumbersSpec)

/-- ITS FALSE NEIGHBOUR: 'it returns false'. Refute it at one input. -/
def fnAlpineNumbersWrong : ChangeSpec := { name := "fnAlpineNumbers", fn := fun _ => fun
  | [d1, d2, d3, d4, d5, d6] => { results := [.lit (.bool false)], args := [d1, d2, d3, d4, d5, d6] }
  | _ => none }
def FnAlpineNumbersWrongFalsely : Prop := fnAlpineNumbersRow.holds Tryd.pinned (OpenSpec.ofChange fnAlpineNumbersWrong)

/-- 'laws.FnAlpineOrder': WHATEVER THE INPUT: true; the input reads as it did. -/
def fnAlpineOrderSpec : ChangeSpec := { name := "fnAlpineOrder", fn := fun _ => fun
  | [d1, d2, d3] => { results := [.lit (.bool true)], args := [d1, d2, d3] }
  | _ => none }
def fnAlpineOrderRow : OpenClaim := { program := "ytapaijpglfmfgaadoor", sum := "a57024015e2d8593d3b55f70f9cd8c1f4007478f7cfd48a82d519bdc49639a6e", func := "pub-primogeniture/laws.FnAlpineOrder", spec := "fnAlpineOrder", inPlace := ["math/bits.Add64", "internal/bytealg.abigen_runtime_cmpstring"], unfollowed := true, recurses := true, named := ["pub-primogeniture/pub/scalibr/semantic.ErrInvalidVersion", "io.EOF", "pub-primogeniture/pub/bigall.errInvalSep", "pub-primogeniture/pub/bigall.errNoDigits"], apart := false, laid := [("io.EOF", laid_io_EOF), ("pub-primogeniture/pub/bigall.errNoDigits", laid_pub_primogeniture_pub_bigall_errNoDigits), ("pub-primogeniture/pub/bigall.errInvalSep", laid_pub_primogeniture_pub_bigall_errInvalSep), ("pub-primogeniture/pub/scalibr/semantic.ErrInvalidVersion", laid_pub_primogeniture_pub_scalibr_semantic_ErrInvalidVersion)] }
def FnAlpineOrderSaid : Prop := fnAlpineOrderRow.holds Tryd.pinned (OpenSpec.ofChange fnAlpineOrderSpec)

/-- ITS FALSE NEIGHBOUR: 'it returns false'. Refute it at one input. -/
def fnAlpineOrderWrong : ChangeSpec := { name := "fnAlpineOrder", fn := fun _ => fun
  | [d1, d2, d3] => { results := [.lit (.bool false)], args := [d1, d2, d3] }
  | _ => none }
def FnAlpineOrderWrongFalsely : Prop := fnAlpineOrderRow.holds Tryd.pinned (OpenSpec.ofChange fnAlpineOrderWrong)

/-- 'laws.FnAlpineStages': WHATEVER THE INPUT: true; the input reads as it did. -/
def fnAlpineStagesSpec : ChangeSpec := { name := "fnAlpineStages", fn := fun _ => fun
  | [d1, d2, d3] => { results := [.lit (.bool true)], args := [d1, d2, d3] }
  | _ => none }
def fnAlpineStagesRow : OpenClaim := { program := "ytapaijpglfmfgaadoor", sum := "a57024015e2d8593d3b55f70f9cd8c1f4007478f7cfd48a82d519bdc49639a6e", func := "pub-primogeniture/laws.FnAlpineStages", spec := "fnAlpineStages", inPlace := ["math/bits.Add64", "internal/bytealg.abigen_runtime_cmpstring"], unfollowed := true, recurses := true, named := ["pub-primogeniture/pub/scalibr/semantic.ErrInvalidVersion", "io.EOF", "pub-primogeniture/pub/bigall.errInvalSep", "pub-primogeniture/pub/bigall.errNoDigits"], apart := false, laid := [("io.EOF", laid_io_EOF), ("pub-primogeniture/pub/bigall.errNoDigits", laid_pub_primogeniture_pub_bigall_errNoDigits), ("pub-primogeniture/pub/bigall.errInvalSep", laid_pub_primogeniture_pub_bigall_errInvalSep), ("pub-primogeniture/pub/scalibr/semantic.ErrInvalidVersion", laid_pub_primogeniture_pub_scalibr_semantic_ErrInvalidVersion)] }
def FnAlpineStagesSaid : Prop := fnAlpineStagesRow.holds Tryd.pinned (OpenSpec.ofChange fnAlpineStagesSpec)

/-- ITS FALSE NEIGHBOUR: 'it returns false'. Refute it at one input. -/
def fnAlpineStagesWrong : ChangeSpec := { name := "fnAlpineStages", fn := fun _ => fun
  | [d1, d2, d3] => { results := [.lit (.bool false)], args := [d1, d2, d3] }
  | _ => none }
def FnAlpineStagesWrongFalsely : Prop := fnAlpineStagesRow.holds Tryd.pinned (OpenSpec.ofChange fnAlpineStagesWrong)

/- THE SECOND FORM. 'bulk': how many values and letters a reading holds, each counted each time it is reached (what is shared counts as often as it is met; a slice's spare places count too). A statement '..UptoSaid' is the law's where the arguments, and the package variables that the reading takes, are together of bulk at most 1048576: NARROWER than '..Said'. Prove '..Said' where nothing that the law and all that it calls make is longer than what came in: it says more and counts as full. Else prove '..UptoSaid'. A law counts once. -/
mutual
def uptoBulk {H : Type} : DataW H → Nat
  | .lit (.string bytes) => bytes.length + 1
  | .lit _ => 1
  | .nil => 1
  | .ptr d => uptoBulk d + 1
  | .slice elems spare => uptoBulkAll elems + uptoBulkAll spare + 1
  | .agg parts => uptoBulkAll parts + 1
  | .iface _ d => uptoBulk d + 1
  | .map entries => uptoBulkEntries entries + 1
  | .held _ => 1
def uptoBulkAll {H : Type} : List (DataW H) → Nat
  | [] => 0
  | d :: r => uptoBulk d + uptoBulkAll r
def uptoBulkEntries {H : Type} : List (Lit × DataW H) → Nat
  | [] => 0
  | x :: r => uptoBulkEntry x + uptoBulkEntries r
def uptoBulkEntry {H : Type} : Lit × DataW H → Nat
  | (.string bytes, d) => bytes.length + uptoBulk d + 1
  | (_, d) => uptoBulk d + 1
 end
def uptoSmall : (H : Type) → List (DataW H) → Bool := fun _ ds => decide (uptoBulkAll ds ≤ 1048576)
def OpenSpec.upto (s : _root_.Go.ChangeSpec) : _root_.Go.OpenSpec := { _root_.Go.OpenSpec.ofChange s with cond := some uptoSmall }

/-- 'laws.FnAlpineBuilt', WHERE WHAT IT READS IS OF BULK AT MOST 1048576: true; the input reads as it did. -/
def fnAlpineBuiltUptoRow : OpenClaim := { program := "ytapaijpglfmfgaadoor", sum := "a57024015e2d8593d3b55f70f9cd8c1f4007478f7cfd48a82d519bdc49639a6e", func := "pub-primogeniture/laws.FnAlpineBuilt", spec := "fnAlpineBuilt", inPlace := ["math/bits.Add64"], unfollowed := true, recurses := true, named := ["pub-primogeniture/pub/scalibr/semantic.ErrInvalidVersion", "io.EOF", "pub-primogeniture/pub/bigall.errInvalSep", "pub-primogeniture/pub/bigall.errNoDigits"], apart := false, laid := [("io.EOF", laid_io_EOF), ("pub-primogeniture/pub/bigall.errNoDigits", laid_pub_primogeniture_pub_bigall_errNoDigits), ("pub-primogeniture/pub/bigall.errInvalSep", laid_pub_primogeniture_pub_bigall_errInvalSep), ("pub-primogeniture/pub/scalibr/semantic.ErrInvalidVersion", laid_pub_primogeniture_pub_scalibr_semantic_ErrInvalidVersion)], narrowed := true }
def FnAlpineBuiltUptoSaid : Prop := fnAlpineBuiltUptoRow.holds Tryd.pinned (OpenSpec.upto fnAlpineBuiltSpec)

/-- 'laws.FnAlpineParse', WHERE WHAT IT READS IS OF BULK AT MOST 1048576: true; the input reads as it did. -/
def fnAlpineParseUptoRow : OpenClaim := { program := "ytapaijpglfmfgaadoor", sum := "a57024015e2d8593d3b55f70f9cd8c1f4007478f7cfd48a82d519bdc49639a6e", func := "pub-primogeniture/laws.FnAlpineParse", spec := "fnAlpineParse", inPlace := ["math/bits.Add64"], unfollowed := true, recurses := true, named := ["pub-primogeniture/pub/scalibr/semantic.ErrInvalidVersion", "io.EOF", "pub-primogeniture/pub/bigall.errInvalSep", "pub-primogeniture/pub/bigall.errNoDigits"], apart := false, laid := [("io.EOF", laid_io_EOF), ("pub-primogeniture/pub/bigall.errNoDigits", laid_pub_primogeniture_pub_bigall_errNoDigits), ("pub-primogeniture/pub/bigall.errInvalSep", laid_pub_primogeniture_pub_bigall_errInvalSep), ("pub-primogeniture/pub/scalibr/semantic.ErrInvalidVersion", laid_pub_primogeniture_pub_scalibr_semantic_ErrInvalidVersion)], narrowed := true }
def FnAlpineParseUptoSaid : Prop := fnAlpineParseUptoRow.holds Tryd.pinned (OpenSpec.upto fnAlpineParseSpec)

/-- 'laws.FnAlpineRest', WHERE WHAT IT READS IS OF BULK AT MOST 1048576: true; the input reads as it did. -/
def fnAlpineRestUptoRow : OpenClaim := { program := "ytapaijpglfmfgaadoor", sum := "a57024015e2d8593d3b55f70f9cd8c1f4007478f7cfd48a82d519bdc49639a6e", func := "pub-primogeniture/laws.FnAlpineRest", spec := "fnAlpineRest", inPlace := ["math/bits.Add64"], unfollowed := true, recurses := true, named := ["pub-primogeniture/pub/scalibr/semantic.ErrInvalidVersion", "io.EOF", "pub-primogeniture/pub/bigall.errInvalSep", "pub-primogeniture/pub/bigall.errNoDigits"], apart := false, laid := [("io.EOF", laid_io_EOF), ("pub-primogeniture/pub/bigall.errNoDigits", laid_pub_primogeniture_pub_bigall_errNoDigits), ("pub-primogeniture/pub/bigall.errInvalSep", laid_pub_primogeniture_pub_bigall_errInvalSep), ("pub-primogeniture/pub/scalibr/semantic.ErrInvalidVersion", laid_pub_primogeniture_pub_scalibr_semantic_ErrInvalidVersion)], narrowed := true }
def FnAlpineRestUptoSaid : Prop := fnAlpineRestUptoRow.holds Tryd.pinned (OpenSpec.upto fnAlpineRestSpec)

/-- 'laws.FnAlpineNumbers', WHERE WHAT IT READS IS OF BULK AT MOST 1048576: true; the input reads as it did. -/
def fnAlpineNumbersUptoRow : OpenClaim := { program := "ytapaijpglfmfgaadoor", sum := "a57024015e2d8593d3b55f70f9cd8c1f4007478f7cfd48a82d519bdc49639a6e", func := "pub-primogeniture/laws.FnAlpineNumbers", spec := "fnAlpineNumbers", inPlace := ["math/bits.Add64", "internal/bytealg.abigen_runtime_cmpstring"], unfollowed := true, recurses := true, named := ["pub-primogeniture/pub/scalibr/semantic.ErrInvalidVersion", "io.EOF", "pub-primogeniture/pub/bigall.errInvalSep", "pub-primogeniture/pub/bigall.errNoDigits"], apart := false, laid := [("io.EOF", laid_io_EOF), ("pub-primogeniture/pub/bigall.errNoDigits", laid_pub_primogeniture_pub_bigall_errNoDigits), ("pub-primogeniture/pub/bigall.errInvalSep", laid_pub_primogeniture_pub_bigall_errInvalSep), ("pub-primogeniture/pub/scalibr/semantic.ErrInvalidVersion", laid_pub_primogeniture_pub_scalibr_semantic_ErrInvalidVersion)], narrowed := true }
def FnAlpineNumbersUptoSaid : Prop := fnAlpineNumbersUptoRow.holds Tryd.pinned (OpenSpec.upto fnAlpineNumbersSpec)

/-- 'laws.FnAlpineOrder', WHERE WHAT IT READS IS OF BULK AT MOST 1048576: true; the input reads as it did. -/
def fnAlpineOrderUptoRow : OpenClaim := { program := "ytapaijpglfmfgaadoor", sum := "a57024015e2d8593d3b55f70f9cd8c1f4007478f7cfd48a82d519bdc49639a6e", func := "pub-primogeniture/laws.FnAlpineOrder", spec := "fnAlpineOrder", inPlace := ["math/bits.Add64", "internal/bytealg.abigen_runtime_cmpstring"], unfollowed := true, recurses := true, named := ["pub-primogeniture/pub/scalibr/semantic.ErrInvalidVersion", "io.EOF", "pub-primogeniture/pub/bigall.errInvalSep", "pub-primogeniture/pub/bigall.errNoDigits"], apart := false, laid := [("io.EOF", laid_io_EOF), ("pub-primogeniture/pub/bigall.errNoDigits", laid_pub_primogeniture_pub_bigall_errNoDigits), ("pub-primogeniture/pub/bigall.errInvalSep", laid_pub_primogeniture_pub_bigall_errInvalSep), ("pub-primogeniture/pub/scalibr/semantic.ErrInvalidVersion", laid_pub_primogeniture_pub_scalibr_semantic_ErrInvalidVersion)], narrowed := true }
def FnAlpineOrderUptoSaid : Prop := fnAlpineOrderUptoRow.holds Tryd.pinned (OpenSpec.upto fnAlpineOrderSpec)

/-- 'laws.FnAlpineStages', WHERE WHAT IT READS IS OF BULK AT MOST 1048576: true; the input reads as it did. -/
def fnAlpineStagesUptoRow : OpenClaim := { program := "ytapaijpglfmfgaadoor", sum := "a57024015e2d8593d3b55f70f9cd8c1f4007478f7cfd48a82d519bdc49639a6e", func := "pub-primogeniture/laws.FnAlpineStages", spec := "fnAlpineStages", inPlace := ["math/bits.Add64", "internal/bytealg.abigen_runtime_cmpstring"], unfollowed := true, recurses := true, named := ["pub-primogeniture/pub/scalibr/semantic.ErrInvalidVersion", "io.EOF", "pub-primogeniture/pub/bigall.errInvalSep", "pub-primogeniture/pub/bigall.errNoDigits"], apart := false, laid := [("io.EOF", laid_io_EOF), ("pub-primogeniture/pub/bigall.errNoDigits", laid_pub_primogeniture_pub_bigall_errNoDigits), ("pub-primogeniture/pub/bigall.errInvalSep", laid_pub_primogeniture_pub_bigall_errInvalSep), ("pub-primogeniture/pub/scalibr/semantic.ErrInvalidVersion", laid_pub_primogeniture_pub_scalibr_semantic_ErrInvalidVersion)], narrowed := true }
def FnAlpineStagesUptoSaid : Prop := fnAlpineStagesUptoRow.holds Tryd.pinned (OpenSpec.upto fnAlpineStagesSpec)

end Rows
end Go.Proofs.YtapaijpglfmfgaaDoor
