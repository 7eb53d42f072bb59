/-
  DERIVED. GIVEN WITH THE SEED: THE PROGRAM's TIES (one call each: nine closed facts by the kernel) AND EACH ROW's TIE, after the 31st guide's Derived/Test/Toyas{Tie, Card}.lean. No idea stands in it: it is a product of the set-up. Laid BY PROGRAM, IN A SANDBOX (cutbox-door.mjs). By AI agents, Wed Nov 11 2026. No macro, syntax, notation, axiom, sorry.
-/
import Derived.Test.YbulkcdqaDoorRows
import Derived.LaidByTextLater
import Derived.SevenTiedAt
import Derived.LaidSub
import Derived.LaidOnce
namespace Go.Proofs.YbulkcdqaDoor
open Go
set_option maxRecDepth 100000
theorem seatTie1 : Ybad.prog.laidByTextLater [("io.ErrUnexpectedEOF", Rows.laid_io_ErrUnexpectedEOF), ("compress/zlib.ErrDictionary", Rows.laid_compress_zlib_ErrDictionary), ("compress/zlib.ErrHeader", Rows.laid_compress_zlib_ErrHeader)] [.sentinel, .sentinel, .sentinel] true :=
  Program.laidByTextLater_by_one 66 8 2 (by kernel_rfl) (by kernel_rfl) (by kernel_rfl) (by kernel_rfl) (by kernel_rfl) (by kernel_rfl) (fun _ _ => by kernel_rfl)
theorem noOwnUnsafe : Ybad.pinned.checked.prog.headLifts.contains "ownunsafe" = false := by kernel_rfl
theorem tie : Ybad.prog.laidByTextLater [("io.ErrUnexpectedEOF", Rows.laid_io_ErrUnexpectedEOF), ("compress/zlib.ErrDictionary", Rows.laid_compress_zlib_ErrDictionary), ("compress/zlib.ErrHeader", Rows.laid_compress_zlib_ErrHeader)] [.sentinel, .sentinel, .sentinel] true :=
  Program.laidByTextLater.sub seatTie1 ["io.ErrUnexpectedEOF", "compress/zlib.ErrDictionary", "compress/zlib.ErrHeader"] (by kernel_rfl) (by kernel_rfl)
theorem lawS3991BExact_row_tie : Rows.lawS3991BExactRow.laidByTextAt .later Ybad.pinned [.sentinel, .sentinel, .sentinel] true :=
  OpenClaim.laidByTextAt_later rfl rfl tie noOwnUnsafe
theorem lawS3991BAccept_row_tie : Rows.lawS3991BAcceptRow.laidByTextAt .later Ybad.pinned [.sentinel, .sentinel, .sentinel] true :=
  OpenClaim.laidByTextAt_later rfl rfl tie noOwnUnsafe
end Go.Proofs.YbulkcdqaDoor
