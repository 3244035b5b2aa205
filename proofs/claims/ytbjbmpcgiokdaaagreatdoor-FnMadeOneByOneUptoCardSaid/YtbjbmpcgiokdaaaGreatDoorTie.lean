/-
  DERIVED. GIVEN WITH THE SEED: THE PROGRAM's TIES (one call each: nine closed facts by the kernel) AND EACH ROW's TIE, after the 31st guide's Derived/Test/Toyas{Tie, Card}.lean. No idea stands in it: it is a product of the set-up. Laid BY PROGRAM, IN A SANDBOX (cutbox-door.mjs). By AI agents, Wed Nov 11 2026. No macro, syntax, notation, axiom, sorry.
-/
import Derived.Test.YtbjbmpcgiokdaaaGreatDoorRows
import Derived.LaidByTextLater
import Derived.SevenTiedAt
import Derived.LaidSub
import Derived.LaidOnce
namespace Go.Proofs.YtbjbmpcgiokdaaaGreatDoor
open Go
set_option maxRecDepth 100000
theorem seatTie1 : Tryz.prog.laidByTextLater [("gzipfiles/spec.sizes", Rows.laid_gzipfiles_spec_sizes), ("gzipfiles/spec.more", Rows.laid_gzipfiles_spec_more), ("gzipfiles/spec.far", Rows.laid_gzipfiles_spec_far), ("gzipfiles/spec.further", Rows.laid_gzipfiles_spec_further), ("gzipfiles/spec.order", Rows.laid_gzipfiles_spec_order), ("io.ErrShortBuffer", Rows.laid_io_ErrShortBuffer), ("io.EOF", Rows.laid_io_EOF), ("io.ErrUnexpectedEOF", Rows.laid_io_ErrUnexpectedEOF), ("gzipfiles/pub/flate.codeOrder", Rows.laid_gzipfiles_pub_flate_codeOrder), ("gzipfiles/pub/gogzip.ErrChecksum", Rows.laid_gzipfiles_pub_gogzip_ErrChecksum), ("gzipfiles/pub/gogzip.ErrHeader", Rows.laid_gzipfiles_pub_gogzip_ErrHeader)] [.widerDeep, .data, .widerDeep, .data, .widerDeep, .sentinel, .sentinel, .sentinel, .data, .sentinel, .sentinel] true :=
  Program.laidByTextLater_by_one 172 8 31 (by kernel_rfl) (by kernel_rfl) (by kernel_rfl) (by kernel_rfl) (by kernel_rfl) (by kernel_rfl) (fun _ _ => by kernel_rfl)
theorem noOwnUnsafe : Tryz.pinned.checked.prog.headLifts.contains "ownunsafe" = false := by kernel_rfl
theorem tie : Tryz.prog.laidByTextLater [("gzipfiles/spec.sizes", Rows.laid_gzipfiles_spec_sizes), ("gzipfiles/spec.more", Rows.laid_gzipfiles_spec_more), ("gzipfiles/spec.far", Rows.laid_gzipfiles_spec_far), ("gzipfiles/spec.further", Rows.laid_gzipfiles_spec_further), ("gzipfiles/spec.order", Rows.laid_gzipfiles_spec_order), ("io.ErrShortBuffer", Rows.laid_io_ErrShortBuffer), ("io.EOF", Rows.laid_io_EOF), ("io.ErrUnexpectedEOF", Rows.laid_io_ErrUnexpectedEOF), ("gzipfiles/pub/flate.codeOrder", Rows.laid_gzipfiles_pub_flate_codeOrder), ("gzipfiles/pub/gogzip.ErrChecksum", Rows.laid_gzipfiles_pub_gogzip_ErrChecksum), ("gzipfiles/pub/gogzip.ErrHeader", Rows.laid_gzipfiles_pub_gogzip_ErrHeader)] [.widerDeep, .data, .widerDeep, .data, .widerDeep, .sentinel, .sentinel, .sentinel, .data, .sentinel, .sentinel] true :=
  Program.laidByTextLater.sub seatTie1 ["gzipfiles/spec.sizes", "gzipfiles/spec.more", "gzipfiles/spec.far", "gzipfiles/spec.further", "gzipfiles/spec.order", "io.ErrShortBuffer", "io.EOF", "io.ErrUnexpectedEOF", "gzipfiles/pub/flate.codeOrder", "gzipfiles/pub/gogzip.ErrChecksum", "gzipfiles/pub/gogzip.ErrHeader"] (by kernel_rfl) (by kernel_rfl)
theorem fnMadeIsRead_row_tie : Rows.fnMadeIsReadRow.laidByTextAt .later Tryz.pinned [.widerDeep, .data, .widerDeep, .data, .widerDeep, .sentinel, .sentinel, .sentinel, .data, .sentinel, .sentinel] true :=
  OpenClaim.laidByTextAt_later rfl rfl tie noOwnUnsafe
theorem fnReadAsTold_row_tie : Rows.fnReadAsToldRow.laidByTextAt .later Tryz.pinned [.widerDeep, .data, .widerDeep, .data, .widerDeep, .sentinel, .sentinel, .sentinel, .data, .sentinel, .sentinel] true :=
  OpenClaim.laidByTextAt_later rfl rfl tie noOwnUnsafe
theorem fnMadeOneByOne_row_tie : Rows.fnMadeOneByOneRow.laidByTextAt .later Tryz.pinned [.widerDeep, .data, .widerDeep, .data, .widerDeep, .sentinel, .sentinel, .sentinel, .data, .sentinel, .sentinel] true :=
  OpenClaim.laidByTextAt_later rfl rfl tie noOwnUnsafe
theorem fnOneByOneAsTold_row_tie : Rows.fnOneByOneAsToldRow.laidByTextAt .later Tryz.pinned [.widerDeep, .data, .widerDeep, .data, .widerDeep, .sentinel, .sentinel, .sentinel, .data, .sentinel, .sentinel] true :=
  OpenClaim.laidByTextAt_later rfl rfl tie noOwnUnsafe
theorem fnMadeIsReadUpto_row_tie : Rows.fnMadeIsReadUptoRow.laidByTextAt .later Tryz.pinned [.widerDeep, .data, .widerDeep, .data, .widerDeep, .sentinel, .sentinel, .sentinel, .data, .sentinel, .sentinel] true :=
  OpenClaim.laidByTextAt_later rfl rfl tie noOwnUnsafe
theorem fnReadAsToldUpto_row_tie : Rows.fnReadAsToldUptoRow.laidByTextAt .later Tryz.pinned [.widerDeep, .data, .widerDeep, .data, .widerDeep, .sentinel, .sentinel, .sentinel, .data, .sentinel, .sentinel] true :=
  OpenClaim.laidByTextAt_later rfl rfl tie noOwnUnsafe
theorem fnMadeOneByOneUpto_row_tie : Rows.fnMadeOneByOneUptoRow.laidByTextAt .later Tryz.pinned [.widerDeep, .data, .widerDeep, .data, .widerDeep, .sentinel, .sentinel, .sentinel, .data, .sentinel, .sentinel] true :=
  OpenClaim.laidByTextAt_later rfl rfl tie noOwnUnsafe
theorem fnOneByOneAsToldUpto_row_tie : Rows.fnOneByOneAsToldUptoRow.laidByTextAt .later Tryz.pinned [.widerDeep, .data, .widerDeep, .data, .widerDeep, .sentinel, .sentinel, .sentinel, .data, .sentinel, .sentinel] true :=
  OpenClaim.laidByTextAt_later rfl rfl tie noOwnUnsafe
end Go.Proofs.YtbjbmpcgiokdaaaGreatDoor
