/-
  DERIVED. GIVEN WITH THE SEED: THE PROGRAM's TIES (one call each: nine closed facts by the kernel) AND EACH ROW's TIE, after the 31st guide's Derived/Test/Toyas{Tie, Card}.lean. No idea stands in it: it is a product of the set-up. Laid BY PROGRAM, IN A SANDBOX (cutbox-door.mjs). By AI agents, Wed Nov 11 2026. No macro, syntax, notation, axiom, sorry.
-/
import Derived.Test.YthipghkhdlnfiaaDoorRows
import Derived.LaidByTextLater
import Derived.SevenTiedAt
import Derived.LaidSub
import Derived.LaidOnce
namespace Go.Proofs.YthipghkhdlnfiaaDoor
open Go
set_option maxRecDepth 100000
theorem seatTie1 : Tryd.prog.laidByTextLater [("io.ErrShortWrite", Rows.laid_io_ErrShortWrite), ("io.errInvalidWrite", Rows.laid_io_errInvalidWrite), ("io.ErrShortBuffer", Rows.laid_io_ErrShortBuffer), ("io.EOF", Rows.laid_io_EOF), ("io.ErrUnexpectedEOF", Rows.laid_io_ErrUnexpectedEOF), ("pub-weftwise/pub/image/riff.errMissingPaddingByte", Rows.laid_pub_weftwise_pub_image_riff_errMissingPaddingByte), ("pub-weftwise/pub/image/riff.errMissingRIFFChunkHeader", Rows.laid_pub_weftwise_pub_image_riff_errMissingRIFFChunkHeader), ("pub-weftwise/pub/image/riff.errListSubchunkTooLong", Rows.laid_pub_weftwise_pub_image_riff_errListSubchunkTooLong), ("pub-weftwise/pub/image/riff.errShortChunkData", Rows.laid_pub_weftwise_pub_image_riff_errShortChunkData), ("pub-weftwise/pub/image/riff.errShortChunkHeader", Rows.laid_pub_weftwise_pub_image_riff_errShortChunkHeader)] [.sentinel, .sentinel, .sentinel, .sentinel, .sentinel, .sentinel, .sentinel, .sentinel, .sentinel, .sentinel] true :=
  Program.laidByTextLater_by_one 218 8 2 (by kernel_rfl) (by kernel_rfl) (by kernel_rfl) (by kernel_rfl) (by kernel_rfl) (by kernel_rfl) (fun _ _ => by kernel_rfl)
theorem noOwnUnsafe : Tryd.pinned.checked.prog.headLifts.contains "ownunsafe" = false := by kernel_rfl
theorem tie : Tryd.prog.laidByTextLater [("io.ErrShortWrite", Rows.laid_io_ErrShortWrite), ("io.errInvalidWrite", Rows.laid_io_errInvalidWrite), ("io.ErrShortBuffer", Rows.laid_io_ErrShortBuffer), ("io.EOF", Rows.laid_io_EOF), ("io.ErrUnexpectedEOF", Rows.laid_io_ErrUnexpectedEOF), ("pub-weftwise/pub/image/riff.errMissingPaddingByte", Rows.laid_pub_weftwise_pub_image_riff_errMissingPaddingByte), ("pub-weftwise/pub/image/riff.errMissingRIFFChunkHeader", Rows.laid_pub_weftwise_pub_image_riff_errMissingRIFFChunkHeader), ("pub-weftwise/pub/image/riff.errListSubchunkTooLong", Rows.laid_pub_weftwise_pub_image_riff_errListSubchunkTooLong), ("pub-weftwise/pub/image/riff.errShortChunkData", Rows.laid_pub_weftwise_pub_image_riff_errShortChunkData), ("pub-weftwise/pub/image/riff.errShortChunkHeader", Rows.laid_pub_weftwise_pub_image_riff_errShortChunkHeader)] [.sentinel, .sentinel, .sentinel, .sentinel, .sentinel, .sentinel, .sentinel, .sentinel, .sentinel, .sentinel] true :=
  Program.laidByTextLater.sub seatTie1 ["io.ErrShortWrite", "io.errInvalidWrite", "io.ErrShortBuffer", "io.EOF", "io.ErrUnexpectedEOF", "pub-weftwise/pub/image/riff.errMissingPaddingByte", "pub-weftwise/pub/image/riff.errMissingRIFFChunkHeader", "pub-weftwise/pub/image/riff.errListSubchunkTooLong", "pub-weftwise/pub/image/riff.errShortChunkData", "pub-weftwise/pub/image/riff.errShortChunkHeader"] (by kernel_rfl) (by kernel_rfl)
theorem fnRiffCuts_row_tie : Rows.fnRiffCutsRow.laidByTextAt .later Tryd.pinned [.sentinel, .sentinel, .sentinel, .sentinel, .sentinel, .sentinel, .sentinel, .sentinel, .sentinel, .sentinel] true :=
  OpenClaim.laidByTextAt_later rfl rfl tie noOwnUnsafe
theorem fnRiffHeads_row_tie : Rows.fnRiffHeadsRow.laidByTextAt .later Tryd.pinned [.sentinel, .sentinel, .sentinel, .sentinel, .sentinel, .sentinel, .sentinel, .sentinel, .sentinel, .sentinel] true :=
  OpenClaim.laidByTextAt_later rfl rfl tie noOwnUnsafe
theorem fnRiffSkips_row_tie : Rows.fnRiffSkipsRow.laidByTextAt .later Tryd.pinned [.sentinel, .sentinel, .sentinel, .sentinel, .sentinel, .sentinel, .sentinel, .sentinel, .sentinel, .sentinel] true :=
  OpenClaim.laidByTextAt_later rfl rfl tie noOwnUnsafe
theorem fnRiffTree_row_tie : Rows.fnRiffTreeRow.laidByTextAt .later Tryd.pinned [.sentinel, .sentinel, .sentinel, .sentinel, .sentinel, .sentinel, .sentinel, .sentinel, .sentinel, .sentinel] true :=
  OpenClaim.laidByTextAt_later rfl rfl tie noOwnUnsafe
theorem fnRiffCutsUpto_row_tie : Rows.fnRiffCutsUptoRow.laidByTextAt .later Tryd.pinned [.sentinel, .sentinel, .sentinel, .sentinel, .sentinel, .sentinel, .sentinel, .sentinel, .sentinel, .sentinel] true :=
  OpenClaim.laidByTextAt_later rfl rfl tie noOwnUnsafe
theorem fnRiffHeadsUpto_row_tie : Rows.fnRiffHeadsUptoRow.laidByTextAt .later Tryd.pinned [.sentinel, .sentinel, .sentinel, .sentinel, .sentinel, .sentinel, .sentinel, .sentinel, .sentinel, .sentinel] true :=
  OpenClaim.laidByTextAt_later rfl rfl tie noOwnUnsafe
theorem fnRiffSkipsUpto_row_tie : Rows.fnRiffSkipsUptoRow.laidByTextAt .later Tryd.pinned [.sentinel, .sentinel, .sentinel, .sentinel, .sentinel, .sentinel, .sentinel, .sentinel, .sentinel, .sentinel] true :=
  OpenClaim.laidByTextAt_later rfl rfl tie noOwnUnsafe
theorem fnRiffTreeUpto_row_tie : Rows.fnRiffTreeUptoRow.laidByTextAt .later Tryd.pinned [.sentinel, .sentinel, .sentinel, .sentinel, .sentinel, .sentinel, .sentinel, .sentinel, .sentinel, .sentinel] true :=
  OpenClaim.laidByTextAt_later rfl rfl tie noOwnUnsafe
end Go.Proofs.YthipghkhdlnfiaaDoor
