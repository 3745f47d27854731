/-
  DERIVED. GIVEN WITH THE SEED: THE PROGRAM's TIES (one call each: nine closed facts by the kernel) AND EACH ROW's TIE, after the 31st guide's Derived/Test/Toyas{Tie, Card}.lean. No idea stands in it: it is a product of the set-up. Laid BY PROGRAM, IN A SANDBOX (cutbox-door.mjs). By AI agents, Wed Nov 11 2026. No macro, syntax, notation, axiom, sorry.
-/
import Derived.Test.Qxb6618523aDoorRRRows
import Derived.LaidByTextLater
import Derived.SevenTiedAt
import Derived.LaidSub
import Derived.LaidOnce
namespace Go.Proofs.Qxb6618523aDoorRR
open Go
set_option maxRecDepth 100000
theorem seatTie1 : Tryd.prog.laidByTextLater [("io.ErrShortBuffer", Rows.laid_io_ErrShortBuffer), ("io.EOF", Rows.laid_io_EOF), ("io.ErrUnexpectedEOF", Rows.laid_io_ErrUnexpectedEOF), ("coppice.example/coppice/internal/tree.errBadState", Rows.laid_coppice_example_coppice_internal_tree_errBadState), ("coppice.example/coppice/internal/tree.topBits", Rows.laid_coppice_example_coppice_internal_tree_topBits)] [.sentinel, .sentinel, .sentinel, .sentinel, .data] true :=
  Program.laidByTextLater_by_one 90 8 10 (by kernel_rfl) (by kernel_rfl) (by kernel_rfl) (by kernel_rfl) (by kernel_rfl) (by kernel_rfl) (fun _ _ => by kernel_rfl)
theorem noOwnUnsafe : Tryd.pinned.checked.prog.headLifts.contains "ownunsafe" = false := by kernel_rfl
theorem tie : Tryd.prog.laidByTextLater [("io.ErrShortBuffer", Rows.laid_io_ErrShortBuffer), ("io.EOF", Rows.laid_io_EOF), ("io.ErrUnexpectedEOF", Rows.laid_io_ErrUnexpectedEOF), ("coppice.example/coppice/internal/tree.errBadState", Rows.laid_coppice_example_coppice_internal_tree_errBadState), ("coppice.example/coppice/internal/tree.topBits", Rows.laid_coppice_example_coppice_internal_tree_topBits)] [.sentinel, .sentinel, .sentinel, .sentinel, .data] true :=
  Program.laidByTextLater.sub seatTie1 ["io.ErrShortBuffer", "io.EOF", "io.ErrUnexpectedEOF", "coppice.example/coppice/internal/tree.errBadState", "coppice.example/coppice/internal/tree.topBits"] (by kernel_rfl) (by kernel_rfl)
theorem fnStringReadsBackThroughNumbers_row_tie : Rows.fnStringReadsBackThroughNumbersRow.laidByTextAt .later Tryd.pinned [.sentinel, .sentinel, .sentinel, .sentinel, .data] true :=
  OpenClaim.laidByTextAt_later rfl rfl tie noOwnUnsafe
end Go.Proofs.Qxb6618523aDoorRR
