/-
  DERIVED. GIVEN WITH THE SEED: THE PROGRAM's TIES (one call each: nine closed facts by the kernel) AND EACH ROW's TIE, after the 31st guide's Derived/Test/Toyas{Tie, Card}.lean. No idea stands in it: it is a product of the set-up. Laid BY PROGRAM, IN A SANDBOX (cutbox-door.mjs). By AI agents, Wed Nov 11 2026. No macro, syntax, notation, axiom, sorry.
-/
import Derived.Test.YbulkdhvqFmtRows
import Derived.LaidByTextLater
import Derived.SevenTiedAt
import Derived.LaidSub
import Derived.LaidOnce
namespace Go.Proofs.YbulkdhvqFmt
open Go
set_option maxRecDepth 100000
theorem seatTie1 : Ybaf.prog.laidByTextLater [("example.com/pointcode/pointcode/sccp.globalTitleFormats", Rows.laid_example_com_pointcode_pointcode_sccp_globalTitleFormats), ("example.com/pointcode/pointcode/sccp.managementNames", Rows.laid_example_com_pointcode_pointcode_sccp_managementNames), ("example.com/pointcode/pointcode/sccp.params", Rows.laid_example_com_pointcode_pointcode_sccp_params)] [.data, .data, .mapped] true :=
  Program.laidByTextLater_by_one 320 8 16 (by kernel_rfl) (by kernel_rfl) (by kernel_rfl) (by kernel_rfl) (by kernel_rfl) (by kernel_rfl) (fun _ _ => by kernel_rfl)
theorem noOwnUnsafe : Ybaf.pinned.checked.prog.headLifts.contains "ownunsafe" = false := by kernel_rfl
theorem tie : Ybaf.prog.laidByTextLater [("example.com/pointcode/pointcode/sccp.globalTitleFormats", Rows.laid_example_com_pointcode_pointcode_sccp_globalTitleFormats), ("example.com/pointcode/pointcode/sccp.params", Rows.laid_example_com_pointcode_pointcode_sccp_params)] [.data, .mapped] true :=
  Program.laidByTextLater.sub seatTie1 ["example.com/pointcode/pointcode/sccp.globalTitleFormats", "example.com/pointcode/pointcode/sccp.params"] (by kernel_rfl) (by kernel_rfl)
theorem lawS5450AWhole_row_tie : Rows.lawS5450AWholeRow.laidByTextAt .later Ybaf.pinned [.data, .mapped] true :=
  OpenClaim.laidByTextAt_later rfl rfl tie noOwnUnsafe
theorem tie2 : Ybaf.prog.laidByTextLater [("example.com/pointcode/pointcode/sccp.managementNames", Rows.laid_example_com_pointcode_pointcode_sccp_managementNames)] [.data] true :=
  Program.laidByTextLater.sub seatTie1 ["example.com/pointcode/pointcode/sccp.managementNames"] (by kernel_rfl) (by kernel_rfl)
theorem lawS5450CPart_row_tie : Rows.lawS5450CPartRow.laidByTextAt .later Ybaf.pinned [.data] true :=
  OpenClaim.laidByTextAt_later rfl rfl tie2 noOwnUnsafe
end Go.Proofs.YbulkdhvqFmt
