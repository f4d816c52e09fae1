/-
  DERIVED. GIVEN WITH THE SEED: THE PROGRAM's TIES (one call each: nine closed facts by the kernel) AND EACH ROW's TIE, after the 31st guide's Derived/Test/Toyas{Tie, Card}.lean. No idea stands in it: it is a product of the set-up. Laid BY PROGRAM, IN A SANDBOX (cutbox-door.mjs). By AI agents, Wed Nov 11 2026. No macro, syntax, notation, axiom, sorry.
-/
import Derived.Test.YtapaijpglfmfgaaDoorRows
import Derived.LaidByTextLater
import Derived.SevenTiedAt
import Derived.LaidSub
import Derived.LaidOnce
namespace Go.Proofs.YtapaijpglfmfgaaDoor
open Go
set_option maxRecDepth 100000
theorem seatTie1 : Tryd.prog.laidByTextLater [("io.EOF", Rows.laid_io_EOF), ("pub-primogeniture/pub/bigall.errNoDigits", Rows.laid_pub_primogeniture_pub_bigall_errNoDigits), ("pub-primogeniture/pub/bigall.errInvalSep", Rows.laid_pub_primogeniture_pub_bigall_errInvalSep), ("pub-primogeniture/pub/scalibr/semantic.ErrInvalidVersion", Rows.laid_pub_primogeniture_pub_scalibr_semantic_ErrInvalidVersion)] [.sentinel, .sentinel, .sentinel, .sentinel] true :=
  Program.laidByTextLater_by_one 85 8 2 (by kernel_rfl) (by kernel_rfl) (by kernel_rfl) (by kernel_rfl) (by kernel_rfl) (by kernel_rfl) (fun _ _ => by kernel_rfl)
theorem noOwnUnsafe : Tryd.pinned.checked.prog.headLifts.contains "ownunsafe" = false := by kernel_rfl
theorem tie : Tryd.prog.laidByTextLater [("io.EOF", Rows.laid_io_EOF), ("pub-primogeniture/pub/bigall.errNoDigits", Rows.laid_pub_primogeniture_pub_bigall_errNoDigits), ("pub-primogeniture/pub/bigall.errInvalSep", Rows.laid_pub_primogeniture_pub_bigall_errInvalSep), ("pub-primogeniture/pub/scalibr/semantic.ErrInvalidVersion", Rows.laid_pub_primogeniture_pub_scalibr_semantic_ErrInvalidVersion)] [.sentinel, .sentinel, .sentinel, .sentinel] true :=
  Program.laidByTextLater.sub seatTie1 ["io.EOF", "pub-primogeniture/pub/bigall.errNoDigits", "pub-primogeniture/pub/bigall.errInvalSep", "pub-primogeniture/pub/scalibr/semantic.ErrInvalidVersion"] (by kernel_rfl) (by kernel_rfl)
theorem fnAlpineBuilt_row_tie : Rows.fnAlpineBuiltRow.laidByTextAt .later Tryd.pinned [.sentinel, .sentinel, .sentinel, .sentinel] true :=
  OpenClaim.laidByTextAt_later rfl rfl tie noOwnUnsafe
theorem fnAlpineParse_row_tie : Rows.fnAlpineParseRow.laidByTextAt .later Tryd.pinned [.sentinel, .sentinel, .sentinel, .sentinel] true :=
  OpenClaim.laidByTextAt_later rfl rfl tie noOwnUnsafe
theorem fnAlpineRest_row_tie : Rows.fnAlpineRestRow.laidByTextAt .later Tryd.pinned [.sentinel, .sentinel, .sentinel, .sentinel] true :=
  OpenClaim.laidByTextAt_later rfl rfl tie noOwnUnsafe
theorem fnAlpineNumbers_row_tie : Rows.fnAlpineNumbersRow.laidByTextAt .later Tryd.pinned [.sentinel, .sentinel, .sentinel, .sentinel] true :=
  OpenClaim.laidByTextAt_later rfl rfl tie noOwnUnsafe
theorem fnAlpineOrder_row_tie : Rows.fnAlpineOrderRow.laidByTextAt .later Tryd.pinned [.sentinel, .sentinel, .sentinel, .sentinel] true :=
  OpenClaim.laidByTextAt_later rfl rfl tie noOwnUnsafe
theorem fnAlpineStages_row_tie : Rows.fnAlpineStagesRow.laidByTextAt .later Tryd.pinned [.sentinel, .sentinel, .sentinel, .sentinel] true :=
  OpenClaim.laidByTextAt_later rfl rfl tie noOwnUnsafe
theorem fnAlpineBuiltUpto_row_tie : Rows.fnAlpineBuiltUptoRow.laidByTextAt .later Tryd.pinned [.sentinel, .sentinel, .sentinel, .sentinel] true :=
  OpenClaim.laidByTextAt_later rfl rfl tie noOwnUnsafe
theorem fnAlpineParseUpto_row_tie : Rows.fnAlpineParseUptoRow.laidByTextAt .later Tryd.pinned [.sentinel, .sentinel, .sentinel, .sentinel] true :=
  OpenClaim.laidByTextAt_later rfl rfl tie noOwnUnsafe
theorem fnAlpineRestUpto_row_tie : Rows.fnAlpineRestUptoRow.laidByTextAt .later Tryd.pinned [.sentinel, .sentinel, .sentinel, .sentinel] true :=
  OpenClaim.laidByTextAt_later rfl rfl tie noOwnUnsafe
theorem fnAlpineNumbersUpto_row_tie : Rows.fnAlpineNumbersUptoRow.laidByTextAt .later Tryd.pinned [.sentinel, .sentinel, .sentinel, .sentinel] true :=
  OpenClaim.laidByTextAt_later rfl rfl tie noOwnUnsafe
theorem fnAlpineOrderUpto_row_tie : Rows.fnAlpineOrderUptoRow.laidByTextAt .later Tryd.pinned [.sentinel, .sentinel, .sentinel, .sentinel] true :=
  OpenClaim.laidByTextAt_later rfl rfl tie noOwnUnsafe
theorem fnAlpineStagesUpto_row_tie : Rows.fnAlpineStagesUptoRow.laidByTextAt .later Tryd.pinned [.sentinel, .sentinel, .sentinel, .sentinel] true :=
  OpenClaim.laidByTextAt_later rfl rfl tie noOwnUnsafe
end Go.Proofs.YtapaijpglfmfgaaDoor
