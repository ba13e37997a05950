/-
  DERIVED. GIVEN WITH THE SEED: THE PROGRAM's TIES (one call each: nine closed facts by the kernel) AND EACH ROW's TIE, after the 31st guide's Derived/Test/Toyas{Tie, Card}.lean. No idea stands in it: it is a product of the set-up. Laid BY PROGRAM, IN A SANDBOX (cutbox-door.mjs). By AI agents, Wed Nov 11 2026. No macro, syntax, notation, axiom, sorry.
-/
import Derived.Test.YbulkchnuFmtRows
import Derived.LaidByTextLater
import Derived.SevenTiedAt
import Derived.LaidSub
import Derived.LaidOnce
namespace Go.Proofs.YbulkchnuFmt
open Go
set_option maxRecDepth 100000
theorem seatTie1 : Ybaf.prog.laidByTextLater [("io.ErrShortBuffer", Rows.laid_io_ErrShortBuffer), ("io.EOF", Rows.laid_io_EOF), ("io.ErrUnexpectedEOF", Rows.laid_io_ErrUnexpectedEOF), ("example.com/holdfast/holdfast/internal/format.formats", Rows.laid_example_com_holdfast_holdfast_internal_format_formats), ("example.com/holdfast/holdfast/internal/format.ErrMalformed", Rows.laid_example_com_holdfast_holdfast_internal_format_ErrMalformed)] [.sentinel, .sentinel, .sentinel, .data, .sentinel] true :=
  Program.laidByTextLater_by_one 110 8 101 (by kernel_rfl) (by kernel_rfl) (by kernel_rfl) (by kernel_rfl) (by kernel_rfl) (by kernel_rfl) (fun _ _ => by kernel_rfl)
theorem noOwnUnsafe : Ybaf.pinned.checked.prog.headLifts.contains "ownunsafe" = false := by kernel_rfl
theorem tie : Ybaf.prog.laidByTextLater [("io.ErrShortBuffer", Rows.laid_io_ErrShortBuffer), ("io.EOF", Rows.laid_io_EOF), ("io.ErrUnexpectedEOF", Rows.laid_io_ErrUnexpectedEOF), ("example.com/holdfast/holdfast/internal/format.formats", Rows.laid_example_com_holdfast_holdfast_internal_format_formats), ("example.com/holdfast/holdfast/internal/format.ErrMalformed", Rows.laid_example_com_holdfast_holdfast_internal_format_ErrMalformed)] [.sentinel, .sentinel, .sentinel, .data, .sentinel] true :=
  Program.laidByTextLater.sub seatTie1 ["io.ErrShortBuffer", "io.EOF", "io.ErrUnexpectedEOF", "example.com/holdfast/holdfast/internal/format.formats", "example.com/holdfast/holdfast/internal/format.ErrMalformed"] (by kernel_rfl) (by kernel_rfl)
theorem lawS4180ATwoReads_row_tie : Rows.lawS4180ATwoReadsRow.laidByTextAt .later Ybaf.pinned [.sentinel, .sentinel, .sentinel, .data, .sentinel] true :=
  OpenClaim.laidByTextAt_later rfl rfl tie noOwnUnsafe
theorem lawS4180AStuck_row_tie : Rows.lawS4180AStuckRow.laidByTextAt .later Ybaf.pinned [.sentinel, .sentinel, .sentinel, .data, .sentinel] true :=
  OpenClaim.laidByTextAt_later rfl rfl tie noOwnUnsafe
end Go.Proofs.YbulkchnuFmt
