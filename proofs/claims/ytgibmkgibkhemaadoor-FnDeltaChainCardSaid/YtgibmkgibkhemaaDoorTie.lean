/-
  DERIVED. GIVEN WITH THE SEED: THE PROGRAM's TIES (one call each: nine closed facts by the kernel) AND EACH ROW's TIE, after the 31st guide's Derived/Test/Toyas{Tie, Card}.lean. No idea stands in it: it is a product of the set-up. Laid BY PROGRAM, IN A SANDBOX (cutbox-door.mjs). By AI agents, Wed Nov 11 2026. No macro, syntax, notation, axiom, sorry.
-/
import Derived.Test.YtgibmkgibkhemaaDoorRows
import Derived.LaidByTextLater
import Derived.SevenTiedAt
import Derived.LaidSub
import Derived.LaidOnce
namespace Go.Proofs.YtgibmkgibkhemaaDoor
open Go
set_option maxRecDepth 100000
theorem seatTie1 : Tryd.prog.laidByTextLater [("io.ErrShortBuffer", Rows.laid_io_ErrShortBuffer), ("io.EOF", Rows.laid_io_EOF), ("io.ErrUnexpectedEOF", Rows.laid_io_ErrUnexpectedEOF), ("bytes.ErrTooLarge", Rows.laid_bytes_ErrTooLarge), ("pub-filiation/pub/gogit/binary.ErrIntegerOverflow", Rows.laid_pub_filiation_pub_gogit_binary_ErrIntegerOverflow), ("pub-filiation/pub/gogit/binary.zzErrType", Rows.laid_pub_filiation_pub_gogit_binary_zzErrType), ("pub-filiation/pub/gogit/packfile.ErrInvalidDelta", Rows.laid_pub_filiation_pub_gogit_packfile_ErrInvalidDelta), ("pub-filiation/pub/gogit/packfile.ErrDeltaCmd", Rows.laid_pub_filiation_pub_gogit_packfile_ErrDeltaCmd), ("pub-filiation/pub/gogit/packfile.ErrLengthOverflow", Rows.laid_pub_filiation_pub_gogit_packfile_ErrLengthOverflow)] [.sentinel, .sentinel, .sentinel, .sentinel, .sentinel, .sentinel, .sentinel, .sentinel, .sentinel] true :=
  Program.laidByTextLater_by_one 180 8 2 (by kernel_rfl) (by kernel_rfl) (by kernel_rfl) (by kernel_rfl) (by kernel_rfl) (by kernel_rfl) (fun _ _ => by kernel_rfl)
theorem noOwnUnsafe : Tryd.pinned.checked.prog.headLifts.contains "ownunsafe" = false := by kernel_rfl
theorem tie : Tryd.prog.laidByTextLater [("bytes.ErrTooLarge", Rows.laid_bytes_ErrTooLarge), ("pub-filiation/pub/gogit/packfile.ErrInvalidDelta", Rows.laid_pub_filiation_pub_gogit_packfile_ErrInvalidDelta), ("pub-filiation/pub/gogit/packfile.ErrDeltaCmd", Rows.laid_pub_filiation_pub_gogit_packfile_ErrDeltaCmd), ("pub-filiation/pub/gogit/packfile.ErrLengthOverflow", Rows.laid_pub_filiation_pub_gogit_packfile_ErrLengthOverflow)] [.sentinel, .sentinel, .sentinel, .sentinel] true :=
  Program.laidByTextLater.sub seatTie1 ["bytes.ErrTooLarge", "pub-filiation/pub/gogit/packfile.ErrInvalidDelta", "pub-filiation/pub/gogit/packfile.ErrDeltaCmd", "pub-filiation/pub/gogit/packfile.ErrLengthOverflow"] (by kernel_rfl) (by kernel_rfl)
theorem fnLeb_row_tie : Rows.fnLebRow.laidByTextAt .later Tryd.pinned [.sentinel, .sentinel, .sentinel, .sentinel] true :=
  OpenClaim.laidByTextAt_later rfl rfl tie noOwnUnsafe
theorem fnDeltaChain_row_tie : Rows.fnDeltaChainRow.laidByTextAt .later Tryd.pinned [.sentinel, .sentinel, .sentinel, .sentinel] true :=
  OpenClaim.laidByTextAt_later rfl rfl tie noOwnUnsafe
theorem tie2 : Tryd.prog.laidByTextLater [("io.ErrShortBuffer", Rows.laid_io_ErrShortBuffer), ("io.EOF", Rows.laid_io_EOF), ("io.ErrUnexpectedEOF", Rows.laid_io_ErrUnexpectedEOF), ("bytes.ErrTooLarge", Rows.laid_bytes_ErrTooLarge), ("pub-filiation/pub/gogit/binary.ErrIntegerOverflow", Rows.laid_pub_filiation_pub_gogit_binary_ErrIntegerOverflow), ("pub-filiation/pub/gogit/binary.zzErrType", Rows.laid_pub_filiation_pub_gogit_binary_zzErrType), ("pub-filiation/pub/gogit/packfile.ErrInvalidDelta", Rows.laid_pub_filiation_pub_gogit_packfile_ErrInvalidDelta), ("pub-filiation/pub/gogit/packfile.ErrDeltaCmd", Rows.laid_pub_filiation_pub_gogit_packfile_ErrDeltaCmd), ("pub-filiation/pub/gogit/packfile.ErrLengthOverflow", Rows.laid_pub_filiation_pub_gogit_packfile_ErrLengthOverflow)] [.sentinel, .sentinel, .sentinel, .sentinel, .sentinel, .sentinel, .sentinel, .sentinel, .sentinel] true :=
  Program.laidByTextLater.sub seatTie1 ["io.ErrShortBuffer", "io.EOF", "io.ErrUnexpectedEOF", "bytes.ErrTooLarge", "pub-filiation/pub/gogit/binary.ErrIntegerOverflow", "pub-filiation/pub/gogit/binary.zzErrType", "pub-filiation/pub/gogit/packfile.ErrInvalidDelta", "pub-filiation/pub/gogit/packfile.ErrDeltaCmd", "pub-filiation/pub/gogit/packfile.ErrLengthOverflow"] (by kernel_rfl) (by kernel_rfl)
theorem fnOffsets_row_tie : Rows.fnOffsetsRow.laidByTextAt .later Tryd.pinned [.sentinel, .sentinel, .sentinel, .sentinel, .sentinel, .sentinel, .sentinel, .sentinel, .sentinel] true :=
  OpenClaim.laidByTextAt_later rfl rfl tie2 noOwnUnsafe
theorem fnLebUpto_row_tie : Rows.fnLebUptoRow.laidByTextAt .later Tryd.pinned [.sentinel, .sentinel, .sentinel, .sentinel] true :=
  OpenClaim.laidByTextAt_later rfl rfl tie noOwnUnsafe
theorem fnOffsetsUpto_row_tie : Rows.fnOffsetsUptoRow.laidByTextAt .later Tryd.pinned [.sentinel, .sentinel, .sentinel, .sentinel, .sentinel, .sentinel, .sentinel, .sentinel, .sentinel] true :=
  OpenClaim.laidByTextAt_later rfl rfl tie2 noOwnUnsafe
theorem fnDeltaChainUpto_row_tie : Rows.fnDeltaChainUptoRow.laidByTextAt .later Tryd.pinned [.sentinel, .sentinel, .sentinel, .sentinel] true :=
  OpenClaim.laidByTextAt_later rfl rfl tie noOwnUnsafe
end Go.Proofs.YtgibmkgibkhemaaDoor
