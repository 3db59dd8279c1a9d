/-
  DERIVED. GIVEN WITH THE SEED: THE PROGRAM's TIES (one call each: nine closed facts by the kernel) AND EACH ROW's TIE, after the 31st guide's Derived/Test/Toyas{Tie, Card}.lean. No idea stands in it: it is a product of the set-up. Laid BY PROGRAM, IN A SANDBOX (cutbox-door.mjs). By AI agents, Wed Nov 11 2026. No macro, syntax, notation, axiom, sorry.
-/
import Derived.Test.YtfllcbcokncgpaaGreatDoorRows
import Derived.LaidByTextLater
import Derived.SevenTiedAt
import Derived.LaidSub
import Derived.LaidOnce
namespace Go.Proofs.YtfllcbcokncgpaaGreatDoor
open Go
set_option maxRecDepth 100000
theorem seatTie1 : Tryz.prog.laidByTextLater [("pub-quillon/pub/prometheus/tsdb/encoding.ErrInvalidSize", Rows.laid_pub_quillon_pub_prometheus_tsdb_encoding_ErrInvalidSize)] [.sentinel] true :=
  Program.laidByTextLater_by_one 28 8 2 (by kernel_rfl) (by kernel_rfl) (by kernel_rfl) (by kernel_rfl) (by kernel_rfl) (by kernel_rfl) (fun _ _ => by kernel_rfl)
theorem noOwnUnsafe : Tryz.pinned.checked.prog.headLifts.contains "ownunsafe" = false := by kernel_rfl
theorem tie : Tryz.prog.laidByTextLater [("pub-quillon/pub/prometheus/tsdb/encoding.ErrInvalidSize", Rows.laid_pub_quillon_pub_prometheus_tsdb_encoding_ErrInvalidSize)] [.sentinel] true :=
  Program.laidByTextLater.sub seatTie1 ["pub-quillon/pub/prometheus/tsdb/encoding.ErrInvalidSize"] (by kernel_rfl) (by kernel_rfl)
theorem fnIntervals_row_tie : Rows.fnIntervalsRow.laidByTextAt .later Tryz.pinned [.sentinel] true :=
  OpenClaim.laidByTextAt_later rfl rfl tie noOwnUnsafe
theorem fnRawAny_row_tie : Rows.fnRawAnyRow.laidByTextAt .later Tryz.pinned [.sentinel] true :=
  OpenClaim.laidByTextAt_later rfl rfl tie noOwnUnsafe
theorem fnStringList_row_tie : Rows.fnStringListRow.laidByTextAt .later Tryz.pinned [.sentinel] true :=
  OpenClaim.laidByTextAt_later rfl rfl tie noOwnUnsafe
theorem fnPadding_row_tie : Rows.fnPaddingRow.laidByTextAt .later Tryz.pinned [.sentinel] true :=
  OpenClaim.laidByTextAt_later rfl rfl tie noOwnUnsafe
theorem fnRawPostings_row_tie : Rows.fnRawPostingsRow.laidByTextAt .later Tryz.pinned [.sentinel] true :=
  OpenClaim.laidByTextAt_later rfl rfl tie noOwnUnsafe
theorem fnBounds_row_tie : Rows.fnBoundsRow.laidByTextAt .later Tryz.pinned [.sentinel] true :=
  OpenClaim.laidByTextAt_later rfl rfl tie noOwnUnsafe
theorem fnToc_row_tie : Rows.fnTocRow.laidByTextAt .later Tryz.pinned [.sentinel] true :=
  OpenClaim.laidByTextAt_later rfl rfl tie noOwnUnsafe
theorem fnEncode_row_tie : Rows.fnEncodeRow.laidByTextAt .later Tryz.pinned [.sentinel] true :=
  OpenClaim.laidByTextAt_later rfl rfl tie noOwnUnsafe
theorem fnIntervalsUpto_row_tie : Rows.fnIntervalsUptoRow.laidByTextAt .later Tryz.pinned [.sentinel] true :=
  OpenClaim.laidByTextAt_later rfl rfl tie noOwnUnsafe
theorem fnRawAnyUpto_row_tie : Rows.fnRawAnyUptoRow.laidByTextAt .later Tryz.pinned [.sentinel] true :=
  OpenClaim.laidByTextAt_later rfl rfl tie noOwnUnsafe
theorem fnStringListUpto_row_tie : Rows.fnStringListUptoRow.laidByTextAt .later Tryz.pinned [.sentinel] true :=
  OpenClaim.laidByTextAt_later rfl rfl tie noOwnUnsafe
theorem fnPaddingUpto_row_tie : Rows.fnPaddingUptoRow.laidByTextAt .later Tryz.pinned [.sentinel] true :=
  OpenClaim.laidByTextAt_later rfl rfl tie noOwnUnsafe
theorem fnRawPostingsUpto_row_tie : Rows.fnRawPostingsUptoRow.laidByTextAt .later Tryz.pinned [.sentinel] true :=
  OpenClaim.laidByTextAt_later rfl rfl tie noOwnUnsafe
theorem fnBoundsUpto_row_tie : Rows.fnBoundsUptoRow.laidByTextAt .later Tryz.pinned [.sentinel] true :=
  OpenClaim.laidByTextAt_later rfl rfl tie noOwnUnsafe
theorem fnTocUpto_row_tie : Rows.fnTocUptoRow.laidByTextAt .later Tryz.pinned [.sentinel] true :=
  OpenClaim.laidByTextAt_later rfl rfl tie noOwnUnsafe
theorem fnEncodeUpto_row_tie : Rows.fnEncodeUptoRow.laidByTextAt .later Tryz.pinned [.sentinel] true :=
  OpenClaim.laidByTextAt_later rfl rfl tie noOwnUnsafe
end Go.Proofs.YtfllcbcokncgpaaGreatDoor
