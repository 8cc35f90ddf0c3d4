/-
  DERIVED. GIVEN WITH THE SEED: THE PROGRAM's TIES (one call each: nine closed facts by the kernel) AND EACH ROW's TIE, after the 31st guide's Derived/Test/Toyas{Tie, Card}.lean. No idea stands in it: it is a product of the set-up. Laid BY PROGRAM, IN A SANDBOX (cutbox-door.mjs). By AI agents, Wed Nov 11 2026. No macro, syntax, notation, axiom, sorry.
-/
import Derived.Test.YbulkaewgFmtRows
import Derived.LaidByTextLater
import Derived.SevenTiedAt
import Derived.LaidSub
import Derived.LaidOnce
namespace Go.Proofs.YbulkaewgFmt
open Go
set_option maxRecDepth 100000
theorem seatTie1 : Ybaf.prog.laidByTextLater [("io.ErrShortBuffer", Rows.laid_io_ErrShortBuffer), ("io.EOF", Rows.laid_io_EOF), ("io.ErrUnexpectedEOF", Rows.laid_io_ErrUnexpectedEOF), ("encoding/hex.ErrLength", Rows.laid_encoding_hex_ErrLength), ("example.com/oidlink/oidlink.specialPkts", Rows.laid_example_com_oidlink_oidlink_specialPkts), ("example.com/oidlink/oidlink.errCutShort", Rows.laid_example_com_oidlink_oidlink_errCutShort)] [.sentinel, .sentinel, .sentinel, .sentinel, .data, .sentinel] true :=
  Program.laidByTextLater_by_one 109 8 4 (by kernel_rfl) (by kernel_rfl) (by kernel_rfl) (by kernel_rfl) (by kernel_rfl) (by kernel_rfl) (fun _ _ => by kernel_rfl)
theorem noOwnUnsafe : Ybaf.pinned.checked.prog.headLifts.contains "ownunsafe" = false := by kernel_rfl
theorem tie : Ybaf.prog.laidByTextLater [("io.ErrShortBuffer", Rows.laid_io_ErrShortBuffer), ("io.EOF", Rows.laid_io_EOF), ("io.ErrUnexpectedEOF", Rows.laid_io_ErrUnexpectedEOF), ("encoding/hex.ErrLength", Rows.laid_encoding_hex_ErrLength), ("example.com/oidlink/oidlink.specialPkts", Rows.laid_example_com_oidlink_oidlink_specialPkts), ("example.com/oidlink/oidlink.errCutShort", Rows.laid_example_com_oidlink_oidlink_errCutShort)] [.sentinel, .sentinel, .sentinel, .sentinel, .data, .sentinel] true :=
  Program.laidByTextLater.sub seatTie1 ["io.ErrShortBuffer", "io.EOF", "io.ErrUnexpectedEOF", "encoding/hex.ErrLength", "example.com/oidlink/oidlink.specialPkts", "example.com/oidlink/oidlink.errCutShort"] (by kernel_rfl) (by kernel_rfl)
theorem lawS1540BRaw_row_tie : Rows.lawS1540BRawRow.laidByTextAt .later Ybaf.pinned [.sentinel, .sentinel, .sentinel, .sentinel, .data, .sentinel] true :=
  OpenClaim.laidByTextAt_later rfl rfl tie noOwnUnsafe
theorem lawS1540BHex_row_tie : Rows.lawS1540BHexRow.laidByTextAt .later Ybaf.pinned [.sentinel, .sentinel, .sentinel, .sentinel, .data, .sentinel] true :=
  OpenClaim.laidByTextAt_later rfl rfl tie noOwnUnsafe
theorem lawS1540BFail_row_tie : Rows.lawS1540BFailRow.laidByTextAt .later Ybaf.pinned [.sentinel, .sentinel, .sentinel, .sentinel, .data, .sentinel] true :=
  OpenClaim.laidByTextAt_later rfl rfl tie noOwnUnsafe
end Go.Proofs.YbulkaewgFmt
