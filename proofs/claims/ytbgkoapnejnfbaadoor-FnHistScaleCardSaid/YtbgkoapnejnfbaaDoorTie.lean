/-
  DERIVED. GIVEN WITH THE SEED: THE PROGRAM's TIES (one call each: nine closed facts by the kernel) AND EACH ROW's TIE, after the 31st guide's Derived/Test/Toyas{Tie, Card}.lean. No idea stands in it: it is a product of the set-up. Laid BY PROGRAM, IN A SANDBOX (cutbox-door.mjs). By AI agents, Wed Nov 11 2026. No macro, syntax, notation, axiom, sorry.
-/
import Derived.Test.YtbgkoapnejnfbaaDoorRows
import Derived.LaidByTextLater
import Derived.SevenTiedAt
import Derived.LaidSub
import Derived.LaidOnce
namespace Go.Proofs.YtbgkoapnejnfbaaDoor
open Go
set_option maxRecDepth 100000
theorem seatTie1 : Tryd.prog.laidByTextLater [("pub-quillon/pub/prometheus/model/histogram.ErrHistogramCountNotBigEnough", Rows.laid_pub_quillon_pub_prometheus_model_histogram_ErrHistogramCountNotBigEnough), ("pub-quillon/pub/prometheus/model/histogram.ErrHistogramCountMismatch", Rows.laid_pub_quillon_pub_prometheus_model_histogram_ErrHistogramCountMismatch), ("pub-quillon/pub/prometheus/model/histogram.ErrHistogramNegativeBucketCount", Rows.laid_pub_quillon_pub_prometheus_model_histogram_ErrHistogramNegativeBucketCount), ("pub-quillon/pub/prometheus/model/histogram.ErrHistogramSpanNegativeOffset", Rows.laid_pub_quillon_pub_prometheus_model_histogram_ErrHistogramSpanNegativeOffset), ("pub-quillon/pub/prometheus/model/histogram.ErrHistogramSpansBucketsMismatch", Rows.laid_pub_quillon_pub_prometheus_model_histogram_ErrHistogramSpansBucketsMismatch), ("pub-quillon/pub/prometheus/model/histogram.ErrHistogramCustomBucketsMismatch", Rows.laid_pub_quillon_pub_prometheus_model_histogram_ErrHistogramCustomBucketsMismatch), ("pub-quillon/pub/prometheus/model/histogram.ErrHistogramCustomBucketsInvalid", Rows.laid_pub_quillon_pub_prometheus_model_histogram_ErrHistogramCustomBucketsInvalid), ("pub-quillon/pub/prometheus/model/histogram.ErrHistogramCustomBucketsInfinite", Rows.laid_pub_quillon_pub_prometheus_model_histogram_ErrHistogramCustomBucketsInfinite)] [.sentinel, .sentinel, .sentinel, .sentinel, .sentinel, .sentinel, .sentinel, .sentinel] true :=
  Program.laidByTextLater_by_one 161 8 2 (by kernel_rfl) (by kernel_rfl) (by kernel_rfl) (by kernel_rfl) (by kernel_rfl) (by kernel_rfl) (fun _ _ => by kernel_rfl)
theorem noOwnUnsafe : Tryd.pinned.checked.prog.headLifts.contains "ownunsafe" = false := by kernel_rfl
theorem tie : Tryd.prog.laidByTextLater [("pub-quillon/pub/prometheus/model/histogram.ErrHistogramCountNotBigEnough", Rows.laid_pub_quillon_pub_prometheus_model_histogram_ErrHistogramCountNotBigEnough), ("pub-quillon/pub/prometheus/model/histogram.ErrHistogramCountMismatch", Rows.laid_pub_quillon_pub_prometheus_model_histogram_ErrHistogramCountMismatch), ("pub-quillon/pub/prometheus/model/histogram.ErrHistogramNegativeBucketCount", Rows.laid_pub_quillon_pub_prometheus_model_histogram_ErrHistogramNegativeBucketCount), ("pub-quillon/pub/prometheus/model/histogram.ErrHistogramSpanNegativeOffset", Rows.laid_pub_quillon_pub_prometheus_model_histogram_ErrHistogramSpanNegativeOffset), ("pub-quillon/pub/prometheus/model/histogram.ErrHistogramSpansBucketsMismatch", Rows.laid_pub_quillon_pub_prometheus_model_histogram_ErrHistogramSpansBucketsMismatch), ("pub-quillon/pub/prometheus/model/histogram.ErrHistogramCustomBucketsMismatch", Rows.laid_pub_quillon_pub_prometheus_model_histogram_ErrHistogramCustomBucketsMismatch), ("pub-quillon/pub/prometheus/model/histogram.ErrHistogramCustomBucketsInvalid", Rows.laid_pub_quillon_pub_prometheus_model_histogram_ErrHistogramCustomBucketsInvalid), ("pub-quillon/pub/prometheus/model/histogram.ErrHistogramCustomBucketsInfinite", Rows.laid_pub_quillon_pub_prometheus_model_histogram_ErrHistogramCustomBucketsInfinite)] [.sentinel, .sentinel, .sentinel, .sentinel, .sentinel, .sentinel, .sentinel, .sentinel] true :=
  Program.laidByTextLater.sub seatTie1 ["pub-quillon/pub/prometheus/model/histogram.ErrHistogramCountNotBigEnough", "pub-quillon/pub/prometheus/model/histogram.ErrHistogramCountMismatch", "pub-quillon/pub/prometheus/model/histogram.ErrHistogramNegativeBucketCount", "pub-quillon/pub/prometheus/model/histogram.ErrHistogramSpanNegativeOffset", "pub-quillon/pub/prometheus/model/histogram.ErrHistogramSpansBucketsMismatch", "pub-quillon/pub/prometheus/model/histogram.ErrHistogramCustomBucketsMismatch", "pub-quillon/pub/prometheus/model/histogram.ErrHistogramCustomBucketsInvalid", "pub-quillon/pub/prometheus/model/histogram.ErrHistogramCustomBucketsInfinite"] (by kernel_rfl) (by kernel_rfl)
theorem fnHistValid_row_tie : Rows.fnHistValidRow.laidByTextAt .later Tryd.pinned [.sentinel, .sentinel, .sentinel, .sentinel, .sentinel, .sentinel, .sentinel, .sentinel] true :=
  OpenClaim.laidByTextAt_later rfl rfl tie noOwnUnsafe
theorem fnHistHinted_row_tie : Rows.fnHistHintedRow.laidByTextAt .later Tryd.pinned [.sentinel, .sentinel, .sentinel, .sentinel, .sentinel, .sentinel, .sentinel, .sentinel] true :=
  OpenClaim.laidByTextAt_later rfl rfl tie noOwnUnsafe
theorem fnHistScale_row_tie : Rows.fnHistScaleRow.laidByTextAt .later Tryd.pinned [.sentinel, .sentinel, .sentinel, .sentinel, .sentinel, .sentinel, .sentinel, .sentinel] true :=
  OpenClaim.laidByTextAt_later rfl rfl tie noOwnUnsafe
theorem fnGenerated_row_tie : Rows.fnGeneratedRow.laidByTextAt .later Tryd.pinned [.sentinel, .sentinel, .sentinel, .sentinel, .sentinel, .sentinel, .sentinel, .sentinel] true :=
  OpenClaim.laidByTextAt_later rfl rfl tie noOwnUnsafe
theorem fnHistCopy_row_tie : Rows.fnHistCopyRow.laidByTextAt .later Tryd.pinned [.sentinel, .sentinel, .sentinel, .sentinel, .sentinel, .sentinel, .sentinel, .sentinel] true :=
  OpenClaim.laidByTextAt_later rfl rfl tie noOwnUnsafe
theorem fnHistCompact_row_tie : Rows.fnHistCompactRow.laidByTextAt .later Tryd.pinned [.sentinel, .sentinel, .sentinel, .sentinel, .sentinel, .sentinel, .sentinel, .sentinel] true :=
  OpenClaim.laidByTextAt_later rfl rfl tie noOwnUnsafe
theorem fnHistValidUpto_row_tie : Rows.fnHistValidUptoRow.laidByTextAt .later Tryd.pinned [.sentinel, .sentinel, .sentinel, .sentinel, .sentinel, .sentinel, .sentinel, .sentinel] true :=
  OpenClaim.laidByTextAt_later rfl rfl tie noOwnUnsafe
theorem fnHistHintedUpto_row_tie : Rows.fnHistHintedUptoRow.laidByTextAt .later Tryd.pinned [.sentinel, .sentinel, .sentinel, .sentinel, .sentinel, .sentinel, .sentinel, .sentinel] true :=
  OpenClaim.laidByTextAt_later rfl rfl tie noOwnUnsafe
theorem fnHistScaleUpto_row_tie : Rows.fnHistScaleUptoRow.laidByTextAt .later Tryd.pinned [.sentinel, .sentinel, .sentinel, .sentinel, .sentinel, .sentinel, .sentinel, .sentinel] true :=
  OpenClaim.laidByTextAt_later rfl rfl tie noOwnUnsafe
theorem fnGeneratedUpto_row_tie : Rows.fnGeneratedUptoRow.laidByTextAt .later Tryd.pinned [.sentinel, .sentinel, .sentinel, .sentinel, .sentinel, .sentinel, .sentinel, .sentinel] true :=
  OpenClaim.laidByTextAt_later rfl rfl tie noOwnUnsafe
theorem fnHistCopyUpto_row_tie : Rows.fnHistCopyUptoRow.laidByTextAt .later Tryd.pinned [.sentinel, .sentinel, .sentinel, .sentinel, .sentinel, .sentinel, .sentinel, .sentinel] true :=
  OpenClaim.laidByTextAt_later rfl rfl tie noOwnUnsafe
theorem fnHistCompactUpto_row_tie : Rows.fnHistCompactUptoRow.laidByTextAt .later Tryd.pinned [.sentinel, .sentinel, .sentinel, .sentinel, .sentinel, .sentinel, .sentinel, .sentinel] true :=
  OpenClaim.laidByTextAt_later rfl rfl tie noOwnUnsafe
end Go.Proofs.YtbgkoapnejnfbaaDoor
