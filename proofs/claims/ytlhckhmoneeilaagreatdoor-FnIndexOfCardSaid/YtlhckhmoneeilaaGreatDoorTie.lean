/-
  DERIVED. GIVEN WITH THE SEED: THE PROGRAM's TIES (one call each: nine closed facts by the kernel) AND EACH ROW's TIE, after the 31st guide's Derived/Test/Toyas{Tie, Card}.lean. No idea stands in it: it is a product of the set-up. Laid BY PROGRAM, IN A SANDBOX (cutbox-door.mjs). By AI agents, Wed Nov 11 2026. No macro, syntax, notation, axiom, sorry.
-/
import Derived.Test.YtlhckhmoneeilaaGreatDoorRows
import Derived.LaidByTextLater
import Derived.SevenTiedAt
import Derived.LaidSub
import Derived.LaidOnce
namespace Go.Proofs.YtlhckhmoneeilaaGreatDoor
open Go
set_option maxRecDepth 100000
theorem seatTie1 : Tryz.prog.laidByTextLater [("pub-quillon/pub/prometheus/tsdb/encoding.ErrInvalidSize", Rows.laid_pub_quillon_pub_prometheus_tsdb_encoding_ErrInvalidSize), ("pub-quillon/pub/prometheus/tsdb/encoding.ErrInvalidChecksum", Rows.laid_pub_quillon_pub_prometheus_tsdb_encoding_ErrInvalidChecksum), ("pub-quillon/pub/prometheus/storage.ErrNotFound", Rows.laid_pub_quillon_pub_prometheus_storage_ErrNotFound)] [.sentinel, .sentinel, .sentinel] true :=
  Program.laidByTextLater_by_one 66 8 2 (by kernel_rfl) (by kernel_rfl) (by kernel_rfl) (by kernel_rfl) (by kernel_rfl) (by kernel_rfl) (fun _ _ => by kernel_rfl)
theorem noOwnUnsafe : Tryz.pinned.checked.prog.headLifts.contains "ownunsafe" = false := by kernel_rfl
theorem tie : Tryz.prog.laidByTextLater [("pub-quillon/pub/prometheus/tsdb/encoding.ErrInvalidSize", Rows.laid_pub_quillon_pub_prometheus_tsdb_encoding_ErrInvalidSize), ("pub-quillon/pub/prometheus/tsdb/encoding.ErrInvalidChecksum", Rows.laid_pub_quillon_pub_prometheus_tsdb_encoding_ErrInvalidChecksum)] [.sentinel, .sentinel] true :=
  Program.laidByTextLater.sub seatTie1 ["pub-quillon/pub/prometheus/tsdb/encoding.ErrInvalidSize", "pub-quillon/pub/prometheus/tsdb/encoding.ErrInvalidChecksum"] (by kernel_rfl) (by kernel_rfl)
theorem fnIndex_row_tie : Rows.fnIndexRow.laidByTextAt .later Tryz.pinned [.sentinel, .sentinel] true :=
  OpenClaim.laidByTextAt_later rfl rfl tie noOwnUnsafe
theorem fnIndexTable_row_tie : Rows.fnIndexTableRow.laidByTextAt .later Tryz.pinned [.sentinel, .sentinel] true :=
  OpenClaim.laidByTextAt_later rfl rfl tie noOwnUnsafe
theorem tie2 : Tryz.prog.laidByTextLater [("pub-quillon/pub/prometheus/tsdb/encoding.ErrInvalidSize", Rows.laid_pub_quillon_pub_prometheus_tsdb_encoding_ErrInvalidSize), ("pub-quillon/pub/prometheus/tsdb/encoding.ErrInvalidChecksum", Rows.laid_pub_quillon_pub_prometheus_tsdb_encoding_ErrInvalidChecksum), ("pub-quillon/pub/prometheus/storage.ErrNotFound", Rows.laid_pub_quillon_pub_prometheus_storage_ErrNotFound)] [.sentinel, .sentinel, .sentinel] true :=
  Program.laidByTextLater.sub seatTie1 ["pub-quillon/pub/prometheus/tsdb/encoding.ErrInvalidSize", "pub-quillon/pub/prometheus/tsdb/encoding.ErrInvalidChecksum", "pub-quillon/pub/prometheus/storage.ErrNotFound"] (by kernel_rfl) (by kernel_rfl)
theorem fnIndexOf_row_tie : Rows.fnIndexOfRow.laidByTextAt .later Tryz.pinned [.sentinel, .sentinel, .sentinel] true :=
  OpenClaim.laidByTextAt_later rfl rfl tie2 noOwnUnsafe
theorem fnIndexUpto_row_tie : Rows.fnIndexUptoRow.laidByTextAt .later Tryz.pinned [.sentinel, .sentinel] true :=
  OpenClaim.laidByTextAt_later rfl rfl tie noOwnUnsafe
theorem fnIndexTableUpto_row_tie : Rows.fnIndexTableUptoRow.laidByTextAt .later Tryz.pinned [.sentinel, .sentinel] true :=
  OpenClaim.laidByTextAt_later rfl rfl tie noOwnUnsafe
theorem fnIndexOfUpto_row_tie : Rows.fnIndexOfUptoRow.laidByTextAt .later Tryz.pinned [.sentinel, .sentinel, .sentinel] true :=
  OpenClaim.laidByTextAt_later rfl rfl tie2 noOwnUnsafe
end Go.Proofs.YtlhckhmoneeilaaGreatDoor
