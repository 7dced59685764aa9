/-
  FROM 'discard.tree reads as listed' TO ITS BLOCK; and a world that meets the condition: the one that the program's own start-up statement leaves.
-/
import Derived.Test.YbulkbrpsDoorLift
import Derived.Test.YbulkbrpsDoorBTab
namespace Go.Proofs.YbulkbrpsDoor
open Go.ChangeShapes Go.WideShapes Go.ChangeAt Go.RowKit

def treeLaid : List (String × DataW Unit) := Rows.lawS3411BIndexRow.laid
def treeName : String := (treeLaid.head?.map (·.1)).getD ""
def treeD : DataW Unit := .agg (nmL.map fun l => .lit (.string l))

theorem treeLaid_eq : treeLaid = [(treeName, treeD)] := by kernel_rfl
theorem gTree : Ybad.prog.globalNamed treeName = some 0 := by kernel_rfl
theorem tTree : (Ybad.prog.globals[0]?).map (·.type) = some 49 := by kernel_rfl
theorem cells49 : Ybad.prog.cellsOf 49 = 39 := by kernel_rfl
theorem cells32 : Ybad.prog.cellsOf 32 = 1 := by kernel_rfl

theorem of_tree {W : World} (h : laidMetH Ybad.prog treeLaid W) : ∃ tt fr, W.heap[0]? = some (.cells tabV tt fr) := by
  rw [MakeChecks.laidMetH_plain _ _ _ (by kernel_rfl), treeLaid_eq] at h
  obtain ⟨ps, ⟨g0, t0, cs0, f0, p0, q0, hg0, ht0, hv0, hd0, _, _⟩, _, _⟩ := h
  obtain rfl := Option.some.inj (gTree.symm.trans hg0)
  obtain rfl := Option.some.inj (tTree.symm.trans ht0)
  have hcs := cells_of_strs (ls := nmL) Ybad.underlying49 Ybad.underlying32 cells32 cells49 hd0
  obtain ⟨tt, fr, hh⟩ := block_of_var hg0 hv0
  refine ⟨tt, fr, ?_⟩
  rw [hh]
  have : cs0 = tabV := by
    unfold tabV
    rw [← hcs]
  rw [this]

theorem door_met (os : Os) (args : Array Value) : laidMetH Ybad.prog treeLaid ((World.doorLaid Ybad.prog 400 os).forCall (fun _ _ => 0) ⟨#[], args, []⟩).memory :=
  laidMetH_of_parts3 (fuel := 8) (laidMet_of_run' 8 (by kernel_rfl) (by kernel_rfl)) (by kernel_rfl) (by kernel_rfl)
end Go.Proofs.YbulkbrpsDoor
