/-
  DERIVED. GIVEN WITH THE SEED: THE PROGRAM's TIES (one call each: nine closed facts by the kernel) AND EACH ROW's TIE, after the 31st guide's Derived/Test/Toyas{Tie, Card}.lean. No idea stands in it: it is a product of the set-up. Laid BY PROGRAM, IN A SANDBOX (cutbox-door.mjs). By AI agents, Wed Nov 11 2026. No macro, syntax, notation, axiom, sorry.
-/
import Derived.Test.YtbjbmpcgiokdaaaDoorRows
import Derived.LaidByTextLater
import Derived.SevenTiedAt
import Derived.LaidSub
import Derived.LaidOnce
namespace Go.Proofs.YtbjbmpcgiokdaaaDoor
open Go
set_option maxRecDepth 100000
theorem seatTie1 : Tryd.prog.laidByTextLater [("io.ErrShortBuffer", Rows.laid_io_ErrShortBuffer), ("io.EOF", Rows.laid_io_EOF), ("io.ErrUnexpectedEOF", Rows.laid_io_ErrUnexpectedEOF), ("gzipfiles/pub/flate.codeOrder", Rows.laid_gzipfiles_pub_flate_codeOrder), ("gzipfiles/pub/gogzip.ErrChecksum", Rows.laid_gzipfiles_pub_gogzip_ErrChecksum), ("gzipfiles/pub/gogzip.ErrHeader", Rows.laid_gzipfiles_pub_gogzip_ErrHeader)] [.sentinel, .sentinel, .sentinel, .data, .sentinel, .sentinel] true :=
  Program.laidByTextLater_by_one 147 8 20 (by kernel_rfl) (by kernel_rfl) (by kernel_rfl) (by kernel_rfl) (by kernel_rfl) (by kernel_rfl) (fun _ _ => by kernel_rfl)
theorem noOwnUnsafe : Tryd.pinned.checked.prog.headLifts.contains "ownunsafe" = false := by kernel_rfl
theorem tie : Tryd.prog.laidByTextLater [("io.ErrShortBuffer", Rows.laid_io_ErrShortBuffer), ("io.EOF", Rows.laid_io_EOF), ("io.ErrUnexpectedEOF", Rows.laid_io_ErrUnexpectedEOF), ("gzipfiles/pub/flate.codeOrder", Rows.laid_gzipfiles_pub_flate_codeOrder), ("gzipfiles/pub/gogzip.ErrChecksum", Rows.laid_gzipfiles_pub_gogzip_ErrChecksum), ("gzipfiles/pub/gogzip.ErrHeader", Rows.laid_gzipfiles_pub_gogzip_ErrHeader)] [.sentinel, .sentinel, .sentinel, .data, .sentinel, .sentinel] true :=
  Program.laidByTextLater.sub seatTie1 ["io.ErrShortBuffer", "io.EOF", "io.ErrUnexpectedEOF", "gzipfiles/pub/flate.codeOrder", "gzipfiles/pub/gogzip.ErrChecksum", "gzipfiles/pub/gogzip.ErrHeader"] (by kernel_rfl) (by kernel_rfl)
theorem fnHeaderTakesItsBytes_row_tie : Rows.fnHeaderTakesItsBytesRow.laidByTextAt .later Tryd.pinned [.sentinel, .sentinel, .sentinel, .data, .sentinel, .sentinel] true :=
  OpenClaim.laidByTextAt_later rfl rfl tie noOwnUnsafe
theorem fnHeaderAsTold_row_tie : Rows.fnHeaderAsToldRow.laidByTextAt .later Tryd.pinned [.sentinel, .sentinel, .sentinel, .data, .sentinel, .sentinel] true :=
  OpenClaim.laidByTextAt_later rfl rfl tie noOwnUnsafe
theorem fnMadeHeaderIsRead_row_tie : Rows.fnMadeHeaderIsReadRow.laidByTextAt .later Tryd.pinned [.sentinel, .sentinel, .sentinel, .data, .sentinel, .sentinel] true :=
  OpenClaim.laidByTextAt_later rfl rfl tie noOwnUnsafe
theorem fnSizesDontMatter_row_tie : Rows.fnSizesDontMatterRow.laidByTextAt .later Tryd.pinned [.sentinel, .sentinel, .sentinel, .data, .sentinel, .sentinel] true :=
  OpenClaim.laidByTextAt_later rfl rfl tie noOwnUnsafe
theorem fnPiecesDontMatter_row_tie : Rows.fnPiecesDontMatterRow.laidByTextAt .later Tryd.pinned [.sentinel, .sentinel, .sentinel, .data, .sentinel, .sentinel] true :=
  OpenClaim.laidByTextAt_later rfl rfl tie noOwnUnsafe
theorem fnReaderResetIsNew_row_tie : Rows.fnReaderResetIsNewRow.laidByTextAt .later Tryd.pinned [.sentinel, .sentinel, .sentinel, .data, .sentinel, .sentinel] true :=
  OpenClaim.laidByTextAt_later rfl rfl tie noOwnUnsafe
theorem fnHeaderTakesItsBytesUpto_row_tie : Rows.fnHeaderTakesItsBytesUptoRow.laidByTextAt .later Tryd.pinned [.sentinel, .sentinel, .sentinel, .data, .sentinel, .sentinel] true :=
  OpenClaim.laidByTextAt_later rfl rfl tie noOwnUnsafe
theorem fnHeaderAsToldUpto_row_tie : Rows.fnHeaderAsToldUptoRow.laidByTextAt .later Tryd.pinned [.sentinel, .sentinel, .sentinel, .data, .sentinel, .sentinel] true :=
  OpenClaim.laidByTextAt_later rfl rfl tie noOwnUnsafe
theorem fnMadeHeaderIsReadUpto_row_tie : Rows.fnMadeHeaderIsReadUptoRow.laidByTextAt .later Tryd.pinned [.sentinel, .sentinel, .sentinel, .data, .sentinel, .sentinel] true :=
  OpenClaim.laidByTextAt_later rfl rfl tie noOwnUnsafe
theorem fnSizesDontMatterUpto_row_tie : Rows.fnSizesDontMatterUptoRow.laidByTextAt .later Tryd.pinned [.sentinel, .sentinel, .sentinel, .data, .sentinel, .sentinel] true :=
  OpenClaim.laidByTextAt_later rfl rfl tie noOwnUnsafe
theorem fnPiecesDontMatterUpto_row_tie : Rows.fnPiecesDontMatterUptoRow.laidByTextAt .later Tryd.pinned [.sentinel, .sentinel, .sentinel, .data, .sentinel, .sentinel] true :=
  OpenClaim.laidByTextAt_later rfl rfl tie noOwnUnsafe
theorem fnReaderResetIsNewUpto_row_tie : Rows.fnReaderResetIsNewUptoRow.laidByTextAt .later Tryd.pinned [.sentinel, .sentinel, .sentinel, .data, .sentinel, .sentinel] true :=
  OpenClaim.laidByTextAt_later rfl rfl tie noOwnUnsafe
end Go.Proofs.YtbjbmpcgiokdaaaDoor
