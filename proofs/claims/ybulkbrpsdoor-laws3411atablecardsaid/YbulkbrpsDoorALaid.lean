/-
  FROM 'record.flowStartNames AND record.flowEndNames read as listed' TO THEIR CELLS; and a world that meets the condition: the one that the program's own start-up statements leave.
-/
import Derived.Test.YbulkbrpsDoorLift
import Derived.Test.YbulkbrpsDoorAEnv
namespace Go.Proofs.YbulkbrpsDoor
open Go.ChangeShapes Go.WideShapes Go.ChangeAt Go.RowKit

def namesLaid : List (String × DataW Unit) := Rows.lawS3411ARawRow.laid
def startName : String := (namesLaid.head?.map (·.1)).getD ""
def endName : String := ((namesLaid.drop 1).head?.map (·.1)).getD ""
def startD : DataW Unit := .agg (stL.map fun l => .lit (.string l))
def endD : DataW Unit := .agg (enL.map fun l => .lit (.string l))

theorem namesLaid_eq : namesLaid = [(startName, startD), (endName, endD)] := by kernel_rfl
theorem gStart : Ybad.prog.globalNamed startName = some 1 := by kernel_rfl
theorem gEnd : Ybad.prog.globalNamed endName = some 2 := by kernel_rfl
theorem tStart : (Ybad.prog.globals[1]?).map (·.type) = some 55 := by kernel_rfl
theorem tEnd : (Ybad.prog.globals[2]?).map (·.type) = some 55 := by kernel_rfl
theorem cells55 : Ybad.prog.cellsOf 55 = 5 := by kernel_rfl
theorem cells9 : Ybad.prog.cellsOf 9 = 1 := by kernel_rfl

theorem of_names {W : World} (h : laidMetH Ybad.prog namesLaid W) : (∀ j, j < 5 → W.cell? ⟨1, j, none⟩ = some (.string (ST j))) ∧ (∀ j, j < 5 → W.cell? ⟨2, j, none⟩ = some (.string (EN j))) ∧ 2 < W.heap.size := by
  rw [MakeChecks.laidMetH_plain _ _ _ (by kernel_rfl), namesLaid_eq] at h
  obtain ⟨ps, ⟨g0, t0, cs0, f0, p0, q0, hg0, ht0, hv0, hd0, ⟨g1, t1, cs1, f1, p1, q1, hg1, ht1, hv1, hd1, _, _⟩, _⟩, _, _⟩ := h
  obtain rfl := Option.some.inj (gStart.symm.trans hg0)
  obtain rfl := Option.some.inj (tStart.symm.trans ht0)
  obtain rfl := Option.some.inj (gEnd.symm.trans hg1)
  obtain rfl := Option.some.inj (tEnd.symm.trans ht1)
  have hcs0 := cells_of_strs (ls := stL) Ybad.underlying55 Ybad.underlying9 cells9 cells55 hd0
  have hcs1 := cells_of_strs (ls := enL) Ybad.underlying55 Ybad.underlying9 cells9 cells55 hd1
  obtain ⟨tt0, fr0, hh0⟩ := block_of_var hg0 hv0
  obtain ⟨tt1, fr1, hh1⟩ := block_of_var hg1 hv1
  have e0 : cs0 = stV := by unfold stV; rw [← hcs0]
  have e1 : cs1 = enV := by unfold enV; rw [← hcs1]
  rw [e0] at hh0
  rw [e1] at hh1
  refine ⟨fun j hj => ?_, fun j hj => ?_, (Array.getElem?_eq_some_iff.1 hh1).1⟩
  · rw [cell_of_row W 1 j _ tt0 fr0 hh0]; exact stV_at j hj
  · rw [cell_of_row W 2 j _ tt1 fr1 hh1]; exact enV_at j hj

theorem names_met (os : Os) (args : Array Value) : laidMetH Ybad.prog namesLaid ((World.doorLaid Ybad.prog 400 os).forCall (fun _ _ => 0) ⟨#[], args, []⟩).memory :=
  laidMetH_of_parts3 (fuel := 8) (laidMet_of_run' 8 (by kernel_rfl) (by kernel_rfl)) (by kernel_rfl) (by kernel_rfl)
end Go.Proofs.YbulkbrpsDoor
