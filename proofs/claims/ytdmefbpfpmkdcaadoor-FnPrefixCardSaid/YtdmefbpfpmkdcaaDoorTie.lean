/-
  DERIVED. GIVEN WITH THE SEED: THE PROGRAM's TIES (one call each: nine closed facts by the kernel) AND EACH ROW's TIE, after the 31st guide's Derived/Test/Toyas{Tie, Card}.lean. No idea stands in it: it is a product of the set-up. Laid BY PROGRAM, IN A SANDBOX (cutbox-door.mjs). By AI agents, Wed Nov 11 2026. No macro, syntax, notation, axiom, sorry.
-/
import Derived.Test.YtdmefbpfpmkdcaaDoorRows
import Derived.LaidByTextLater
import Derived.SevenTiedAt
import Derived.LaidSub
import Derived.LaidOnce
namespace Go.Proofs.YtdmefbpfpmkdcaaDoor
open Go
set_option maxRecDepth 100000
theorem seatTie1 : Tryd.prog.laidByTextLater [("io.EOF", Rows.laid_io_EOF), ("io.ErrUnexpectedEOF", Rows.laid_io_ErrUnexpectedEOF), ("pub-weftwise/pub/image/vp8l.errInvalidCodeLengths", Rows.laid_pub_weftwise_pub_image_vp8l_errInvalidCodeLengths), ("pub-weftwise/pub/image/vp8l.errInvalidHuffmanTree", Rows.laid_pub_weftwise_pub_image_vp8l_errInvalidHuffmanTree), ("pub-weftwise/pub/image/vp8l.codeLengthCodeOrder", Rows.laid_pub_weftwise_pub_image_vp8l_codeLengthCodeOrder), ("pub-weftwise/pub/image/vp8l.repeatBits", Rows.laid_pub_weftwise_pub_image_vp8l_repeatBits), ("pub-weftwise/pub/image/vp8l.repeatOffsets", Rows.laid_pub_weftwise_pub_image_vp8l_repeatOffsets), ("pub-weftwise/pub/image/vp8l.reverseBits", Rows.laid_pub_weftwise_pub_image_vp8l_reverseBits)] [.sentinel, .sentinel, .sentinel, .sentinel, .data, .data, .data, .data] true :=
  Program.laidByTextLater_by_one 105 8 257 (by kernel_rfl) (by kernel_rfl) (by kernel_rfl) (by kernel_rfl) (by kernel_rfl) (by kernel_rfl) (fun _ _ => by kernel_rfl)
theorem noOwnUnsafe : Tryd.pinned.checked.prog.headLifts.contains "ownunsafe" = false := by kernel_rfl
theorem tie : Tryd.prog.laidByTextLater [("io.EOF", Rows.laid_io_EOF), ("io.ErrUnexpectedEOF", Rows.laid_io_ErrUnexpectedEOF)] [.sentinel, .sentinel] true :=
  Program.laidByTextLater.sub seatTie1 ["io.EOF", "io.ErrUnexpectedEOF"] (by kernel_rfl) (by kernel_rfl)
theorem fnReadWritten_row_tie : Rows.fnReadWrittenRow.laidByTextAt .later Tryd.pinned [.sentinel, .sentinel] true :=
  OpenClaim.laidByTextAt_later rfl rfl tie noOwnUnsafe
theorem fnParamWritten_row_tie : Rows.fnParamWrittenRow.laidByTextAt .later Tryd.pinned [.sentinel, .sentinel] true :=
  OpenClaim.laidByTextAt_later rfl rfl tie noOwnUnsafe
theorem tie2 : Tryd.prog.laidByTextLater [("pub-weftwise/pub/image/vp8l.errInvalidHuffmanTree", Rows.laid_pub_weftwise_pub_image_vp8l_errInvalidHuffmanTree)] [.sentinel] true :=
  Program.laidByTextLater.sub seatTie1 ["pub-weftwise/pub/image/vp8l.errInvalidHuffmanTree"] (by kernel_rfl) (by kernel_rfl)
theorem fnCodesBegin_row_tie : Rows.fnCodesBeginRow.laidByTextAt .later Tryd.pinned [.sentinel] true :=
  OpenClaim.laidByTextAt_later rfl rfl tie2 noOwnUnsafe
theorem tie3 : Tryd.prog.laidByTextLater [("io.EOF", Rows.laid_io_EOF), ("io.ErrUnexpectedEOF", Rows.laid_io_ErrUnexpectedEOF), ("pub-weftwise/pub/image/vp8l.errInvalidHuffmanTree", Rows.laid_pub_weftwise_pub_image_vp8l_errInvalidHuffmanTree), ("pub-weftwise/pub/image/vp8l.reverseBits", Rows.laid_pub_weftwise_pub_image_vp8l_reverseBits)] [.sentinel, .sentinel, .sentinel, .data] true :=
  Program.laidByTextLater.sub seatTie1 ["io.EOF", "io.ErrUnexpectedEOF", "pub-weftwise/pub/image/vp8l.errInvalidHuffmanTree", "pub-weftwise/pub/image/vp8l.reverseBits"] (by kernel_rfl) (by kernel_rfl)
theorem fnSimple_row_tie : Rows.fnSimpleRow.laidByTextAt .later Tryd.pinned [.sentinel, .sentinel, .sentinel, .data] true :=
  OpenClaim.laidByTextAt_later rfl rfl tie3 noOwnUnsafe
theorem fnSymbolsWritten_row_tie : Rows.fnSymbolsWrittenRow.laidByTextAt .later Tryd.pinned [.sentinel, .sentinel, .sentinel, .data] true :=
  OpenClaim.laidByTextAt_later rfl rfl tie3 noOwnUnsafe
theorem tie4 : Tryd.prog.laidByTextLater [("io.EOF", Rows.laid_io_EOF), ("io.ErrUnexpectedEOF", Rows.laid_io_ErrUnexpectedEOF), ("pub-weftwise/pub/image/vp8l.errInvalidCodeLengths", Rows.laid_pub_weftwise_pub_image_vp8l_errInvalidCodeLengths), ("pub-weftwise/pub/image/vp8l.errInvalidHuffmanTree", Rows.laid_pub_weftwise_pub_image_vp8l_errInvalidHuffmanTree), ("pub-weftwise/pub/image/vp8l.codeLengthCodeOrder", Rows.laid_pub_weftwise_pub_image_vp8l_codeLengthCodeOrder), ("pub-weftwise/pub/image/vp8l.repeatBits", Rows.laid_pub_weftwise_pub_image_vp8l_repeatBits), ("pub-weftwise/pub/image/vp8l.repeatOffsets", Rows.laid_pub_weftwise_pub_image_vp8l_repeatOffsets), ("pub-weftwise/pub/image/vp8l.reverseBits", Rows.laid_pub_weftwise_pub_image_vp8l_reverseBits)] [.sentinel, .sentinel, .sentinel, .sentinel, .data, .data, .data, .data] true :=
  Program.laidByTextLater.sub seatTie1 ["io.EOF", "io.ErrUnexpectedEOF", "pub-weftwise/pub/image/vp8l.errInvalidCodeLengths", "pub-weftwise/pub/image/vp8l.errInvalidHuffmanTree", "pub-weftwise/pub/image/vp8l.codeLengthCodeOrder", "pub-weftwise/pub/image/vp8l.repeatBits", "pub-weftwise/pub/image/vp8l.repeatOffsets", "pub-weftwise/pub/image/vp8l.reverseBits"] (by kernel_rfl) (by kernel_rfl)
theorem fnPrefix_row_tie : Rows.fnPrefixRow.laidByTextAt .later Tryd.pinned [.sentinel, .sentinel, .sentinel, .sentinel, .data, .data, .data, .data] true :=
  OpenClaim.laidByTextAt_later rfl rfl tie4 noOwnUnsafe
theorem fnReadWrittenUpto_row_tie : Rows.fnReadWrittenUptoRow.laidByTextAt .later Tryd.pinned [.sentinel, .sentinel] true :=
  OpenClaim.laidByTextAt_later rfl rfl tie noOwnUnsafe
theorem fnParamWrittenUpto_row_tie : Rows.fnParamWrittenUptoRow.laidByTextAt .later Tryd.pinned [.sentinel, .sentinel] true :=
  OpenClaim.laidByTextAt_later rfl rfl tie noOwnUnsafe
theorem fnCodesBeginUpto_row_tie : Rows.fnCodesBeginUptoRow.laidByTextAt .later Tryd.pinned [.sentinel] true :=
  OpenClaim.laidByTextAt_later rfl rfl tie2 noOwnUnsafe
theorem fnSimpleUpto_row_tie : Rows.fnSimpleUptoRow.laidByTextAt .later Tryd.pinned [.sentinel, .sentinel, .sentinel, .data] true :=
  OpenClaim.laidByTextAt_later rfl rfl tie3 noOwnUnsafe
theorem fnSymbolsWrittenUpto_row_tie : Rows.fnSymbolsWrittenUptoRow.laidByTextAt .later Tryd.pinned [.sentinel, .sentinel, .sentinel, .data] true :=
  OpenClaim.laidByTextAt_later rfl rfl tie3 noOwnUnsafe
theorem fnPrefixUpto_row_tie : Rows.fnPrefixUptoRow.laidByTextAt .later Tryd.pinned [.sentinel, .sentinel, .sentinel, .sentinel, .data, .data, .data, .data] true :=
  OpenClaim.laidByTextAt_later rfl rfl tie4 noOwnUnsafe
end Go.Proofs.YtdmefbpfpmkdcaaDoor
