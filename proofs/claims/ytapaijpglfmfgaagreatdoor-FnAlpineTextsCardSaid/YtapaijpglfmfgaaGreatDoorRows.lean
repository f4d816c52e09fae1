/-
  NARROWER THAN 'FOR EVERY INPUT', by the rows' own cells (each row's printed sentence says how): FnAlpineBuiltPair: laid · FnAlpineBack: laid · FnAlpineTexts: laid.
  DERIVED. THE GIVEN ROWS OF THIS SEAT. 3 by the template 'for every input the law returns true; each argument reads behind the call as it read before'; 0 by the template 'total and deterministic' (their statements: YtapaijpglfmfgaaGreatDoorTotals.lean).
  GIVEN WITH THE SEED: the statements are not yours to turn. If you find one false, say at which input.
  Laid BY PROGRAM, IN A SANDBOX (cutbox-rows.mjs): the forced cells as the released guide's own fill.sh prints them over the translation c08821253150106b… (all of the seat's roots in one cut). By AI agents, Wed Nov 11 2026. No macro, syntax, notation, axiom, sorry.
-/
import Derived.Test.YtapaijpglfmfgaaGreatDoorChecked
import GoSem.Claim
import GoSem.ClaimJoined
import GoSem.ClaimMapViews
import Derived.JoinedTies
import Derived.KernelRfl
namespace Go.Proofs.YtapaijpglfmfgaaGreatDoor
/- THE CELL 'sum', in the pinned program and in every row, IS THE sha256 OF THE DUMP (.gsa) THAT YtapaijpglfmfgaaGreatDoorProg.lean LOADS. Nothing in Lean hashes anything: it is a label: what it is worth is what the hold of that sum in a sandbox is worth. -/
noncomputable def Tryz.pinned : Pinned := { name := "ytapaijpglfmfgaagreatdoor", sum := "c08821253150106b2f93598cf60f832fab4959eacb738d0ec168d44c2ed58683", checked := Tryz.checked }
namespace Rows
def none {H : Type} : Left H := { results := [], args := [] }

/- WHAT THE LISTED PACKAGE-LEVEL VARIABLES READ AS WHEN THE CALL BEGINS. Each datum BY PROGRAM (the guide's laid-datum.mjs) off the statement by which the dump's own 'gosem.cut.vars' lays the variable. In a bare row this is a premise. The card (YtapaijpglfmfgaaGreatDoorCards.lean) ties it to the program's text. -/
def laid_io_EOF {H : Type} : DataW H := .iface "*errors.errorString" (.ptr (.agg [.lit (.string [69, 79, 70])]))
def laid_pub_primogeniture_pub_bigall_errNoDigits {H : Type} : DataW H := .iface "*errors.errorString" (.ptr (.agg [.lit (.string [110, 117, 109, 98, 101, 114, 32, 104, 97, 115, 32, 110, 111, 32, 100, 105, 103, 105, 116, 115])]))
def laid_pub_primogeniture_pub_bigall_errInvalSep {H : Type} : DataW H := .iface "*errors.errorString" (.ptr (.agg [.lit (.string [39, 95, 39, 32, 109, 117, 115, 116, 32, 115, 101, 112, 97, 114, 97, 116, 101, 32, 115, 117, 99, 99, 101, 115, 115, 105, 118, 101, 32, 100, 105, 103, 105, 116, 115])]))
def laid_pub_primogeniture_pub_scalibr_semantic_ErrInvalidVersion {H : Type} : DataW H := .iface "*errors.errorString" (.ptr (.agg [.lit (.string [105, 110, 118, 97, 108, 105, 100, 32, 118, 101, 114, 115, 105, 111, 110])]))

/-- 'laws.FnAlpineBuiltPair': WHATEVER THE INPUT: true; the input reads as it did. -/
def fnAlpineBuiltPairSpec : ChangeSpec := { name := "fnAlpineBuiltPair", fn := fun _ => fun
  | [d1, d2] => { results := [.lit (.bool true)], args := [d1, d2] }
  | _ => none }
def fnAlpineBuiltPairRow : OpenClaim := { program := "ytapaijpglfmfgaagreatdoor", sum := "c08821253150106b2f93598cf60f832fab4959eacb738d0ec168d44c2ed58683", func := "pub-primogeniture/laws.FnAlpineBuiltPair", spec := "fnAlpineBuiltPair", inPlace := ["math/bits.Add64", "internal/bytealg.abigen_runtime_cmpstring"], unfollowed := true, recurses := true, named := ["pub-primogeniture/pub/scalibr/semantic.ErrInvalidVersion", "io.EOF", "pub-primogeniture/pub/bigall.errInvalSep", "pub-primogeniture/pub/bigall.errNoDigits"], apart := false, laid := [("io.EOF", laid_io_EOF), ("pub-primogeniture/pub/bigall.errNoDigits", laid_pub_primogeniture_pub_bigall_errNoDigits), ("pub-primogeniture/pub/bigall.errInvalSep", laid_pub_primogeniture_pub_bigall_errInvalSep), ("pub-primogeniture/pub/scalibr/semantic.ErrInvalidVersion", laid_pub_primogeniture_pub_scalibr_semantic_ErrInvalidVersion)] }
def FnAlpineBuiltPairSaid : Prop := fnAlpineBuiltPairRow.holds Tryz.pinned (OpenSpec.ofChange fnAlpineBuiltPairSpec)

/-- ITS FALSE NEIGHBOUR: 'it returns false'. Refute it at one input. -/
def fnAlpineBuiltPairWrong : ChangeSpec := { name := "fnAlpineBuiltPair", fn := fun _ => fun
  | [d1, d2] => { results := [.lit (.bool false)], args := [d1, d2] }
  | _ => none }
def FnAlpineBuiltPairWrongFalsely : Prop := fnAlpineBuiltPairRow.holds Tryz.pinned (OpenSpec.ofChange fnAlpineBuiltPairWrong)

/-- 'laws.FnAlpineBack': WHATEVER THE INPUT: true; the input reads as it did. -/
def fnAlpineBackSpec : ChangeSpec := { name := "fnAlpineBack", fn := fun _ => fun
  | [d] => { results := [.lit (.bool true)], args := [d] }
  | _ => none }
def fnAlpineBackRow : OpenClaim := { program := "ytapaijpglfmfgaagreatdoor", sum := "c08821253150106b2f93598cf60f832fab4959eacb738d0ec168d44c2ed58683", func := "pub-primogeniture/laws.FnAlpineBack", spec := "fnAlpineBack", inPlace := ["math/bits.Add64", "internal/bytealg.abigen_runtime_cmpstring"], unfollowed := true, recurses := true, named := ["pub-primogeniture/pub/scalibr/semantic.ErrInvalidVersion", "io.EOF", "pub-primogeniture/pub/bigall.errInvalSep", "pub-primogeniture/pub/bigall.errNoDigits"], apart := false, laid := [("io.EOF", laid_io_EOF), ("pub-primogeniture/pub/bigall.errNoDigits", laid_pub_primogeniture_pub_bigall_errNoDigits), ("pub-primogeniture/pub/bigall.errInvalSep", laid_pub_primogeniture_pub_bigall_errInvalSep), ("pub-primogeniture/pub/scalibr/semantic.ErrInvalidVersion", laid_pub_primogeniture_pub_scalibr_semantic_ErrInvalidVersion)] }
def FnAlpineBackSaid : Prop := fnAlpineBackRow.holds Tryz.pinned (OpenSpec.ofChange fnAlpineBackSpec)

/-- ITS FALSE NEIGHBOUR: 'it returns false'. Refute it at one input. -/
def fnAlpineBackWrong : ChangeSpec := { name := "fnAlpineBack", fn := fun _ => fun
  | [d] => { results := [.lit (.bool false)], args := [d] }
  | _ => none }
def FnAlpineBackWrongFalsely : Prop := fnAlpineBackRow.holds Tryz.pinned (OpenSpec.ofChange fnAlpineBackWrong)

/-- 'laws.FnAlpineTexts': WHATEVER THE INPUT: true; the input reads as it did. -/
def fnAlpineTextsSpec : ChangeSpec := { name := "fnAlpineTexts", fn := fun _ => fun
  | [d1, d2] => { results := [.lit (.bool true)], args := [d1, d2] }
  | _ => none }
def fnAlpineTextsRow : OpenClaim := { program := "ytapaijpglfmfgaagreatdoor", sum := "c08821253150106b2f93598cf60f832fab4959eacb738d0ec168d44c2ed58683", func := "pub-primogeniture/laws.FnAlpineTexts", spec := "fnAlpineTexts", inPlace := ["math/bits.Add64", "internal/bytealg.abigen_runtime_cmpstring"], unfollowed := true, recurses := true, named := ["pub-primogeniture/pub/scalibr/semantic.ErrInvalidVersion", "io.EOF", "pub-primogeniture/pub/bigall.errInvalSep", "pub-primogeniture/pub/bigall.errNoDigits"], apart := false, laid := [("io.EOF", laid_io_EOF), ("pub-primogeniture/pub/bigall.errNoDigits", laid_pub_primogeniture_pub_bigall_errNoDigits), ("pub-primogeniture/pub/bigall.errInvalSep", laid_pub_primogeniture_pub_bigall_errInvalSep), ("pub-primogeniture/pub/scalibr/semantic.ErrInvalidVersion", laid_pub_primogeniture_pub_scalibr_semantic_ErrInvalidVersion)] }
def FnAlpineTextsSaid : Prop := fnAlpineTextsRow.holds Tryz.pinned (OpenSpec.ofChange fnAlpineTextsSpec)

/-- ITS FALSE NEIGHBOUR: 'it returns false'. Refute it at one input. -/
def fnAlpineTextsWrong : ChangeSpec := { name := "fnAlpineTexts", fn := fun _ => fun
  | [d1, d2] => { results := [.lit (.bool false)], args := [d1, d2] }
  | _ => none }
def FnAlpineTextsWrongFalsely : Prop := fnAlpineTextsRow.holds Tryz.pinned (OpenSpec.ofChange fnAlpineTextsWrong)

/- THE SECOND FORM. 'bulk': how many values and letters a reading holds, each counted each time it is reached (what is shared counts as often as it is met; a slice's spare places count too). A statement '..UptoSaid' is the law's where the arguments, and the package variables that the reading takes, are together of bulk at most 1048576: NARROWER than '..Said'. Prove '..Said' where nothing that the law and all that it calls make is longer than what came in: it says more and counts as full. Else prove '..UptoSaid'. A law counts once. -/
mutual
def uptoBulk {H : Type} : DataW H → Nat
  | .lit (.string bytes) => bytes.length + 1
  | .lit _ => 1
  | .nil => 1
  | .ptr d => uptoBulk d + 1
  | .slice elems spare => uptoBulkAll elems + uptoBulkAll spare + 1
  | .agg parts => uptoBulkAll parts + 1
  | .iface _ d => uptoBulk d + 1
  | .map entries => uptoBulkEntries entries + 1
  | .held _ => 1
def uptoBulkAll {H : Type} : List (DataW H) → Nat
  | [] => 0
  | d :: r => uptoBulk d + uptoBulkAll r
def uptoBulkEntries {H : Type} : List (Lit × DataW H) → Nat
  | [] => 0
  | x :: r => uptoBulkEntry x + uptoBulkEntries r
def uptoBulkEntry {H : Type} : Lit × DataW H → Nat
  | (.string bytes, d) => bytes.length + uptoBulk d + 1
  | (_, d) => uptoBulk d + 1
 end
def uptoSmall : (H : Type) → List (DataW H) → Bool := fun _ ds => decide (uptoBulkAll ds ≤ 1048576)
def OpenSpec.upto (s : _root_.Go.ChangeSpec) : _root_.Go.OpenSpec := { _root_.Go.OpenSpec.ofChange s with cond := some uptoSmall }

/-- 'laws.FnAlpineBuiltPair', WHERE WHAT IT READS IS OF BULK AT MOST 1048576: true; the input reads as it did. -/
def fnAlpineBuiltPairUptoRow : OpenClaim := { program := "ytapaijpglfmfgaagreatdoor", sum := "c08821253150106b2f93598cf60f832fab4959eacb738d0ec168d44c2ed58683", func := "pub-primogeniture/laws.FnAlpineBuiltPair", spec := "fnAlpineBuiltPair", inPlace := ["math/bits.Add64", "internal/bytealg.abigen_runtime_cmpstring"], unfollowed := true, recurses := true, named := ["pub-primogeniture/pub/scalibr/semantic.ErrInvalidVersion", "io.EOF", "pub-primogeniture/pub/bigall.errInvalSep", "pub-primogeniture/pub/bigall.errNoDigits"], apart := false, laid := [("io.EOF", laid_io_EOF), ("pub-primogeniture/pub/bigall.errNoDigits", laid_pub_primogeniture_pub_bigall_errNoDigits), ("pub-primogeniture/pub/bigall.errInvalSep", laid_pub_primogeniture_pub_bigall_errInvalSep), ("pub-primogeniture/pub/scalibr/semantic.ErrInvalidVersion", laid_pub_primogeniture_pub_scalibr_semantic_ErrInvalidVersion)], narrowed := true }
def FnAlpineBuiltPairUptoSaid : Prop := fnAlpineBuiltPairUptoRow.holds Tryz.pinned (OpenSpec.upto fnAlpineBuiltPairSpec)

/-- 'laws.FnAlpineBack', WHERE WHAT IT READS IS OF BULK AT MOST 1048576: true; the input reads as it did. -/
def fnAlpineBackUptoRow : OpenClaim := { program := "ytapaijpglfmfgaagreatdoor", sum := "c08821253150106b2f93598cf60f832fab4959eacb738d0ec168d44c2ed58683", func := "pub-primogeniture/laws.FnAlpineBack", spec := "fnAlpineBack", inPlace := ["math/bits.Add64", "internal/bytealg.abigen_runtime_cmpstring"], unfollowed := true, recurses := true, named := ["pub-primogeniture/pub/scalibr/semantic.ErrInvalidVersion", "io.EOF", "pub-primogeniture/pub/bigall.errInvalSep", "pub-primogeniture/pub/bigall.errNoDigits"], apart := false, laid := [("io.EOF", laid_io_EOF), ("pub-primogeniture/pub/bigall.errNoDigits", laid_pub_primogeniture_pub_bigall_errNoDigits), ("pub-primogeniture/pub/bigall.errInvalSep", laid_pub_primogeniture_pub_bigall_errInvalSep), ("pub-primogeniture/pub/scalibr/semantic.ErrInvalidVersion", laid_pub_primogeniture_pub_scalibr_semantic_ErrInvalidVersion)], narrowed := true }
def FnAlpineBackUptoSaid : Prop := fnAlpineBackUptoRow.holds Tryz.pinned (OpenSpec.upto fnAlpineBackSpec)

/-- 'laws.FnAlpineTexts', WHERE WHAT IT READS IS OF BULK AT MOST 1048576: true; the input reads as it did. -/
def fnAlpineTextsUptoRow : OpenClaim := { program := "ytapaijpglfmfgaagreatdoor", sum := "c08821253150106b2f93598cf60f832fab4959eacb738d0ec168d44c2ed58683", func := "pub-primogeniture/laws.FnAlpineTexts", spec := "fnAlpineTexts", inPlace := ["math/bits.Add64", "internal/bytealg.abigen_runtime_cmpstring"], unfollowed := true, recurses := true, named := ["pub-primogeniture/pub/scalibr/semantic.ErrInvalidVersion", "io.EOF", "pub-primogeniture/pub/bigall.errInvalSep", "pub-primogeniture/pub/bigall.errNoDigits"], apart := false, laid := [("io.EOF", laid_io_EOF), ("pub-primogeniture/pub/bigall.errNoDigits", laid_pub_primogeniture_pub_bigall_errNoDigits), ("pub-primogeniture/pub/bigall.errInvalSep", laid_pub_primogeniture_pub_bigall_errInvalSep), ("pub-primogeniture/pub/scalibr/semantic.ErrInvalidVersion", laid_pub_primogeniture_pub_scalibr_semantic_ErrInvalidVersion)], narrowed := true }
def FnAlpineTextsUptoSaid : Prop := fnAlpineTextsUptoRow.holds Tryz.pinned (OpenSpec.upto fnAlpineTextsSpec)

end Rows
end Go.Proofs.YtapaijpglfmfgaaGreatDoor
