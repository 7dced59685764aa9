/-
  DERIVED. GIVEN WITH THE SEED: THE PROGRAM's TIES (one call each: nine closed facts by the kernel) AND EACH ROW's TIE, after the 31st guide's Derived/Test/Toyas{Tie, Card}.lean. No idea stands in it: it is a product of the set-up. Laid BY PROGRAM, IN A SANDBOX (cutbox-door.mjs). By AI agents, Wed Nov 11 2026. No macro, syntax, notation, axiom, sorry.
-/
import Derived.Test.YbulkbrpsDoorRows
import Derived.LaidByTextLater
import Derived.SevenTiedAt
import Derived.LaidSub
import Derived.LaidOnce
namespace Go.Proofs.YbulkbrpsDoor
open Go
set_option maxRecDepth 100000
theorem seatTie1 : Ybad.prog.laidByTextLater [("example.com/droplens/droplens/discard.tree", Rows.laid_example_com_droplens_droplens_discard_tree), ("example.com/droplens/droplens/record.flowStartNames", Rows.laid_example_com_droplens_droplens_record_flowStartNames), ("example.com/droplens/droplens/record.flowEndNames", Rows.laid_example_com_droplens_droplens_record_flowEndNames)] [.widerDeep, .data, .data] true :=
  Program.laidByTextLater_by_one 24 8 40 (by kernel_rfl) (by kernel_rfl) (by kernel_rfl) (by kernel_rfl) (by kernel_rfl) (by kernel_rfl) (fun _ _ => by kernel_rfl)
theorem noOwnUnsafe : Ybad.pinned.checked.prog.headLifts.contains "ownunsafe" = false := by kernel_rfl
theorem tie : Ybad.prog.laidByTextLater [("example.com/droplens/droplens/record.flowStartNames", Rows.laid_example_com_droplens_droplens_record_flowStartNames), ("example.com/droplens/droplens/record.flowEndNames", Rows.laid_example_com_droplens_droplens_record_flowEndNames)] [.data, .data] true :=
  Program.laidByTextLater.sub seatTie1 ["example.com/droplens/droplens/record.flowStartNames", "example.com/droplens/droplens/record.flowEndNames"] (by kernel_rfl) (by kernel_rfl)
theorem lawS3411ATable_row_tie : Rows.lawS3411ATableRow.laidByTextAt .later Ybad.pinned [.data, .data] true :=
  OpenClaim.laidByTextAt_later rfl rfl tie noOwnUnsafe
theorem lawS3411ARaw_row_tie : Rows.lawS3411ARawRow.laidByTextAt .later Ybad.pinned [.data, .data] true :=
  OpenClaim.laidByTextAt_later rfl rfl tie noOwnUnsafe
theorem tie2 : Ybad.prog.laidByTextLater [("example.com/droplens/droplens/discard.tree", Rows.laid_example_com_droplens_droplens_discard_tree)] [.widerDeep] true :=
  Program.laidByTextLater.sub seatTie1 ["example.com/droplens/droplens/discard.tree"] (by kernel_rfl) (by kernel_rfl)
theorem lawS3411BIndex_row_tie : Rows.lawS3411BIndexRow.laidByTextAt .later Ybad.pinned [.widerDeep] true :=
  OpenClaim.laidByTextAt_later rfl rfl tie2 noOwnUnsafe
theorem lawS3411BModel_row_tie : Rows.lawS3411BModelRow.laidByTextAt .later Ybad.pinned [.widerDeep] true :=
  OpenClaim.laidByTextAt_later rfl rfl tie2 noOwnUnsafe
theorem lawS3411BRoundTrip_row_tie : Rows.lawS3411BRoundTripRow.laidByTextAt .later Ybad.pinned [.widerDeep] true :=
  OpenClaim.laidByTextAt_later rfl rfl tie2 noOwnUnsafe
end Go.Proofs.YbulkbrpsDoor
