/-
  DERIVED. GIVEN WITH THE SEED: THE PROGRAM's TIES (one call each: nine closed facts by the kernel) AND EACH ROW's TIE, after the 31st guide's Derived/Test/Toyas{Tie, Card}.lean. No idea stands in it: it is a product of the set-up. Laid BY PROGRAM, IN A SANDBOX (cutbox-door.mjs). By AI agents, Wed Nov 11 2026. No macro, syntax, notation, axiom, sorry.
-/
import Derived.Test.YbulkdhrwFmtRows
import Derived.LaidByTextLater
import Derived.SevenTiedAt
import Derived.LaidSub
import Derived.LaidOnce
namespace Go.Proofs.YbulkdhrwFmt
open Go
set_option maxRecDepth 100000
theorem seatTie1 : Ybaf.prog.laidByTextLater [("io.EOF", Rows.laid_io_EOF), ("io.ErrUnexpectedEOF", Rows.laid_io_ErrUnexpectedEOF), ("example.com/resolvent/resolvent/pkg/cbor.ErrTooLarge", Rows.laid_example_com_resolvent_resolvent_pkg_cbor_ErrTooLarge), ("example.com/resolvent/resolvent/pkg/rains.objectTypeNames", Rows.laid_example_com_resolvent_resolvent_pkg_rains_objectTypeNames)] [.sentinel, .sentinel, .sentinel, .data] true :=
  Program.laidByTextLater_by_one 71 8 15 (by kernel_rfl) (by kernel_rfl) (by kernel_rfl) (by kernel_rfl) (by kernel_rfl) (by kernel_rfl) (fun _ _ => by kernel_rfl)
theorem noOwnUnsafe : Ybaf.pinned.checked.prog.headLifts.contains "ownunsafe" = false := by kernel_rfl
theorem tie : Ybaf.prog.laidByTextLater [("io.EOF", Rows.laid_io_EOF), ("io.ErrUnexpectedEOF", Rows.laid_io_ErrUnexpectedEOF), ("example.com/resolvent/resolvent/pkg/cbor.ErrTooLarge", Rows.laid_example_com_resolvent_resolvent_pkg_cbor_ErrTooLarge)] [.sentinel, .sentinel, .sentinel] true :=
  Program.laidByTextLater.sub seatTie1 ["io.EOF", "io.ErrUnexpectedEOF", "example.com/resolvent/resolvent/pkg/cbor.ErrTooLarge"] (by kernel_rfl) (by kernel_rfl)
theorem lawS5443BWhole_row_tie : Rows.lawS5443BWholeRow.laidByTextAt .later Ybaf.pinned [.sentinel, .sentinel, .sentinel] true :=
  OpenClaim.laidByTextAt_later rfl rfl tie noOwnUnsafe
theorem tie2 : Ybaf.prog.laidByTextLater [("example.com/resolvent/resolvent/pkg/rains.objectTypeNames", Rows.laid_example_com_resolvent_resolvent_pkg_rains_objectTypeNames)] [.data] true :=
  Program.laidByTextLater.sub seatTie1 ["example.com/resolvent/resolvent/pkg/rains.objectTypeNames"] (by kernel_rfl) (by kernel_rfl)
theorem lawS5443CPart_row_tie : Rows.lawS5443CPartRow.laidByTextAt .later Ybaf.pinned [.data] true :=
  OpenClaim.laidByTextAt_later rfl rfl tie2 noOwnUnsafe
end Go.Proofs.YbulkdhrwFmt
