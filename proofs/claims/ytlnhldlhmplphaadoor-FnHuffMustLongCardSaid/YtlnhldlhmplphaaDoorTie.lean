/-
  DERIVED. GIVEN WITH THE SEED: THE PROGRAM's TIES (one call each: nine closed facts by the kernel) AND EACH ROW's TIE, after the 31st guide's Derived/Test/Toyas{Tie, Card}.lean. No idea stands in it: it is a product of the set-up. Laid BY PROGRAM, IN A SANDBOX (cutbox-door.mjs). By AI agents, Wed Nov 11 2026. No macro, syntax, notation, axiom, sorry.
-/
import Derived.Test.YtlnhldlhmplphaaDoorRows
import Derived.LaidByTextLater
import Derived.SevenTiedAt
import Derived.LaidSub
import Derived.LaidOnce
namespace Go.Proofs.YtlnhldlhmplphaaDoor
open Go
set_option maxRecDepth 100000
theorem seatTie1 : Tryd.prog.laidByTextLater [("io.ErrUnexpectedEOF", Rows.laid_io_ErrUnexpectedEOF), ("pub-pemmican/pub/compress/fse.bitMask16", Rows.laid_pub_pemmican_pub_compress_fse_bitMask16), ("pub-pemmican/pub/compress/fse.rtbTable", Rows.laid_pub_pemmican_pub_compress_fse_rtbTable), ("pub-pemmican/pub/compress/fse.ErrIncompressible", Rows.laid_pub_pemmican_pub_compress_fse_ErrIncompressible), ("pub-pemmican/pub/compress/fse.ErrUseRLE", Rows.laid_pub_pemmican_pub_compress_fse_ErrUseRLE), ("pub-pemmican/pub/compress/huff0.ErrIncompressible", Rows.laid_pub_pemmican_pub_compress_huff0_ErrIncompressible), ("pub-pemmican/pub/compress/huff0.ErrUseRLE", Rows.laid_pub_pemmican_pub_compress_huff0_ErrUseRLE), ("pub-pemmican/pub/compress/huff0.ErrTooBig", Rows.laid_pub_pemmican_pub_compress_huff0_ErrTooBig)] [.sentinel, .data, .data, .sentinel, .sentinel, .sentinel, .sentinel, .sentinel] true :=
  Program.laidByTextLater_by_one 133 8 33 (by kernel_rfl) (by kernel_rfl) (by kernel_rfl) (by kernel_rfl) (by kernel_rfl) (by kernel_rfl) (fun _ _ => by kernel_rfl)
theorem noOwnUnsafe : Tryd.pinned.checked.prog.headLifts.contains "ownunsafe" = false := by kernel_rfl
theorem tie : Tryd.prog.laidByTextLater [("io.ErrUnexpectedEOF", Rows.laid_io_ErrUnexpectedEOF), ("pub-pemmican/pub/compress/fse.bitMask16", Rows.laid_pub_pemmican_pub_compress_fse_bitMask16), ("pub-pemmican/pub/compress/fse.rtbTable", Rows.laid_pub_pemmican_pub_compress_fse_rtbTable), ("pub-pemmican/pub/compress/fse.ErrIncompressible", Rows.laid_pub_pemmican_pub_compress_fse_ErrIncompressible), ("pub-pemmican/pub/compress/fse.ErrUseRLE", Rows.laid_pub_pemmican_pub_compress_fse_ErrUseRLE), ("pub-pemmican/pub/compress/huff0.ErrIncompressible", Rows.laid_pub_pemmican_pub_compress_huff0_ErrIncompressible), ("pub-pemmican/pub/compress/huff0.ErrTooBig", Rows.laid_pub_pemmican_pub_compress_huff0_ErrTooBig)] [.sentinel, .data, .data, .sentinel, .sentinel, .sentinel, .sentinel] true :=
  Program.laidByTextLater.sub seatTie1 ["io.ErrUnexpectedEOF", "pub-pemmican/pub/compress/fse.bitMask16", "pub-pemmican/pub/compress/fse.rtbTable", "pub-pemmican/pub/compress/fse.ErrIncompressible", "pub-pemmican/pub/compress/fse.ErrUseRLE", "pub-pemmican/pub/compress/huff0.ErrIncompressible", "pub-pemmican/pub/compress/huff0.ErrTooBig"] (by kernel_rfl) (by kernel_rfl)
theorem fnHuffAgain_row_tie : Rows.fnHuffAgainRow.laidByTextAt .later Tryd.pinned [.sentinel, .data, .data, .sentinel, .sentinel, .sentinel, .sentinel] true :=
  OpenClaim.laidByTextAt_later rfl rfl tie noOwnUnsafe
theorem fnHuffTableAny_row_tie : Rows.fnHuffTableAnyRow.laidByTextAt .later Tryd.pinned [.sentinel, .data, .data, .sentinel, .sentinel, .sentinel, .sentinel] true :=
  OpenClaim.laidByTextAt_later rfl rfl tie noOwnUnsafe
theorem tie2 : Tryd.prog.laidByTextLater [("pub-pemmican/pub/compress/fse.bitMask16", Rows.laid_pub_pemmican_pub_compress_fse_bitMask16), ("pub-pemmican/pub/compress/fse.rtbTable", Rows.laid_pub_pemmican_pub_compress_fse_rtbTable), ("pub-pemmican/pub/compress/fse.ErrIncompressible", Rows.laid_pub_pemmican_pub_compress_fse_ErrIncompressible), ("pub-pemmican/pub/compress/fse.ErrUseRLE", Rows.laid_pub_pemmican_pub_compress_fse_ErrUseRLE), ("pub-pemmican/pub/compress/huff0.ErrIncompressible", Rows.laid_pub_pemmican_pub_compress_huff0_ErrIncompressible), ("pub-pemmican/pub/compress/huff0.ErrUseRLE", Rows.laid_pub_pemmican_pub_compress_huff0_ErrUseRLE), ("pub-pemmican/pub/compress/huff0.ErrTooBig", Rows.laid_pub_pemmican_pub_compress_huff0_ErrTooBig)] [.data, .data, .sentinel, .sentinel, .sentinel, .sentinel, .sentinel] true :=
  Program.laidByTextLater.sub seatTie1 ["pub-pemmican/pub/compress/fse.bitMask16", "pub-pemmican/pub/compress/fse.rtbTable", "pub-pemmican/pub/compress/fse.ErrIncompressible", "pub-pemmican/pub/compress/fse.ErrUseRLE", "pub-pemmican/pub/compress/huff0.ErrIncompressible", "pub-pemmican/pub/compress/huff0.ErrUseRLE", "pub-pemmican/pub/compress/huff0.ErrTooBig"] (by kernel_rfl) (by kernel_rfl)
theorem fnHuffDecodes_row_tie : Rows.fnHuffDecodesRow.laidByTextAt .later Tryd.pinned [.data, .data, .sentinel, .sentinel, .sentinel, .sentinel, .sentinel] true :=
  OpenClaim.laidByTextAt_later rfl rfl tie2 noOwnUnsafe
theorem fnHuffLong_row_tie : Rows.fnHuffLongRow.laidByTextAt .later Tryd.pinned [.data, .data, .sentinel, .sentinel, .sentinel, .sentinel, .sentinel] true :=
  OpenClaim.laidByTextAt_later rfl rfl tie2 noOwnUnsafe
theorem fnHuffRising_row_tie : Rows.fnHuffRisingRow.laidByTextAt .later Tryd.pinned [.data, .data, .sentinel, .sentinel, .sentinel, .sentinel, .sentinel] true :=
  OpenClaim.laidByTextAt_later rfl rfl tie2 noOwnUnsafe
theorem fnHuffSame_row_tie : Rows.fnHuffSameRow.laidByTextAt .later Tryd.pinned [.data, .data, .sentinel, .sentinel, .sentinel, .sentinel, .sentinel] true :=
  OpenClaim.laidByTextAt_later rfl rfl tie2 noOwnUnsafe
theorem fnHuffTable_row_tie : Rows.fnHuffTableRow.laidByTextAt .later Tryd.pinned [.data, .data, .sentinel, .sentinel, .sentinel, .sentinel, .sentinel] true :=
  OpenClaim.laidByTextAt_later rfl rfl tie2 noOwnUnsafe
theorem fnHuffScriptDecodes_row_tie : Rows.fnHuffScriptDecodesRow.laidByTextAt .later Tryd.pinned [.data, .data, .sentinel, .sentinel, .sentinel, .sentinel, .sentinel] true :=
  OpenClaim.laidByTextAt_later rfl rfl tie2 noOwnUnsafe
theorem fnHuffTransferFine_row_tie : Rows.fnHuffTransferFineRow.laidByTextAt .later Tryd.pinned [.data, .data, .sentinel, .sentinel, .sentinel, .sentinel, .sentinel] true :=
  OpenClaim.laidByTextAt_later rfl rfl tie2 noOwnUnsafe
theorem fnHuffMustFine_row_tie : Rows.fnHuffMustFineRow.laidByTextAt .later Tryd.pinned [.data, .data, .sentinel, .sentinel, .sentinel, .sentinel, .sentinel] true :=
  OpenClaim.laidByTextAt_later rfl rfl tie2 noOwnUnsafe
theorem fnHuffMustLong_row_tie : Rows.fnHuffMustLongRow.laidByTextAt .later Tryd.pinned [.data, .data, .sentinel, .sentinel, .sentinel, .sentinel, .sentinel] true :=
  OpenClaim.laidByTextAt_later rfl rfl tie2 noOwnUnsafe
theorem fnHuffAgainUpto_row_tie : Rows.fnHuffAgainUptoRow.laidByTextAt .later Tryd.pinned [.sentinel, .data, .data, .sentinel, .sentinel, .sentinel, .sentinel] true :=
  OpenClaim.laidByTextAt_later rfl rfl tie noOwnUnsafe
theorem fnHuffTableAnyUpto_row_tie : Rows.fnHuffTableAnyUptoRow.laidByTextAt .later Tryd.pinned [.sentinel, .data, .data, .sentinel, .sentinel, .sentinel, .sentinel] true :=
  OpenClaim.laidByTextAt_later rfl rfl tie noOwnUnsafe
theorem fnHuffDecodesUpto_row_tie : Rows.fnHuffDecodesUptoRow.laidByTextAt .later Tryd.pinned [.data, .data, .sentinel, .sentinel, .sentinel, .sentinel, .sentinel] true :=
  OpenClaim.laidByTextAt_later rfl rfl tie2 noOwnUnsafe
theorem fnHuffLongUpto_row_tie : Rows.fnHuffLongUptoRow.laidByTextAt .later Tryd.pinned [.data, .data, .sentinel, .sentinel, .sentinel, .sentinel, .sentinel] true :=
  OpenClaim.laidByTextAt_later rfl rfl tie2 noOwnUnsafe
theorem fnHuffRisingUpto_row_tie : Rows.fnHuffRisingUptoRow.laidByTextAt .later Tryd.pinned [.data, .data, .sentinel, .sentinel, .sentinel, .sentinel, .sentinel] true :=
  OpenClaim.laidByTextAt_later rfl rfl tie2 noOwnUnsafe
theorem fnHuffSameUpto_row_tie : Rows.fnHuffSameUptoRow.laidByTextAt .later Tryd.pinned [.data, .data, .sentinel, .sentinel, .sentinel, .sentinel, .sentinel] true :=
  OpenClaim.laidByTextAt_later rfl rfl tie2 noOwnUnsafe
theorem fnHuffTableUpto_row_tie : Rows.fnHuffTableUptoRow.laidByTextAt .later Tryd.pinned [.data, .data, .sentinel, .sentinel, .sentinel, .sentinel, .sentinel] true :=
  OpenClaim.laidByTextAt_later rfl rfl tie2 noOwnUnsafe
theorem fnHuffScriptDecodesUpto_row_tie : Rows.fnHuffScriptDecodesUptoRow.laidByTextAt .later Tryd.pinned [.data, .data, .sentinel, .sentinel, .sentinel, .sentinel, .sentinel] true :=
  OpenClaim.laidByTextAt_later rfl rfl tie2 noOwnUnsafe
theorem fnHuffTransferFineUpto_row_tie : Rows.fnHuffTransferFineUptoRow.laidByTextAt .later Tryd.pinned [.data, .data, .sentinel, .sentinel, .sentinel, .sentinel, .sentinel] true :=
  OpenClaim.laidByTextAt_later rfl rfl tie2 noOwnUnsafe
theorem fnHuffMustFineUpto_row_tie : Rows.fnHuffMustFineUptoRow.laidByTextAt .later Tryd.pinned [.data, .data, .sentinel, .sentinel, .sentinel, .sentinel, .sentinel] true :=
  OpenClaim.laidByTextAt_later rfl rfl tie2 noOwnUnsafe
theorem fnHuffMustLongUpto_row_tie : Rows.fnHuffMustLongUptoRow.laidByTextAt .later Tryd.pinned [.data, .data, .sentinel, .sentinel, .sentinel, .sentinel, .sentinel] true :=
  OpenClaim.laidByTextAt_later rfl rfl tie2 noOwnUnsafe
end Go.Proofs.YtlnhldlhmplphaaDoor
