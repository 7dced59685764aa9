/-
  zzs3411aname: whatever the byte and the row, it answers a string, and lays at most new blocks.
-/
import Derived.Test.YbulkbrpsDoorAEnv
namespace Go.Proofs.YbulkbrpsDoor
open Go.RowKit

def tblL : List (List UInt8) := srcL ++ stL ++ enL ++ [[], [97], [98], [102, 108, 111, 119, 83, 116, 97, 114, 116]]
def tblV : Array Value := (tblL.map fun l => Value.string ⟨l.toArray⟩).toArray
def zero17 : Array Value := Array.replicate 17 (.string ⟨#[]⟩)
theorem tblV_at (j : Nat) (h : j < 17) : ∃ s : ByteArray, tblV[j]? = some (.string s) ∧ s.size ≤ 100 := by
  have hlen : tblL.length = 17 := by decide +kernel
  have hj : j < tblL.length := by omega
  refine ⟨⟨(tblL[j]).toArray⟩, by simp [tblV, hj], ?_⟩
  have hall : (tblL.all fun l => decide (l.length ≤ 100)) = true := by decide +kernel
  have := List.all_eq_true.1 hall tblL[j] (List.getElem_mem hj)
  simpa [ByteArray.size] using this
theorem alloc38 (w : World) : (Instr.alloc 38 true (.tuple #[])).run Ybad.prog w = .ok (.pointer (some ⟨w.heap.size, 0, none⟩)) (w.alloc (.cells zero17 38)) := by kernel_rfl

set_option maxRecDepth 100000 in
set_option maxHeartbeats 1000000 in
theorem aname_any (b : Nat) (hb : b < 256) (sp : Option Addr) (m cap : Nat) (w : World) (hm : m ≤ maxLen)
    (hpos : Hid (0 < m → ∃ ad, sp = some ad ∧ ∀ j, j < m → ∃ s : ByteArray, w.cell? (ad.add j) = some (.string s) ∧ s.size ≤ maxLen)) :
    Calls Ybad.prog 8 #[.int .u8 b, .slice sp m cap] w fun e w' => ∃ s : ByteArray, e = .returned (.string s) ∧ s.size ≤ maxLen ∧ Below w.heap.size w w' := by
  go_enter Ybad.func8, Ybad.ntmps8
  have hB : Hid (Below w.heap.size w (w.alloc (.cells tblV 38))) := (Below.refl _ _).alloc (Nat.le_refl _) _
  by_cases h17 : b % 19 < 17
  · obtain ⟨s, hs, hss⟩ := tblV_at (b % 19) h17
    have hc : (w.alloc (.cells tblV 38)).cell? ⟨w.heap.size, b % 19, none⟩ = some (.string s) := by
      rw [cell_of_row _ w.heap.size (b % 19) tblV 38 (0, 0) (heap_alloc_new _ _)]; exact hs
    have h17' : ((b : Int) % 19) < 17 := by omega
    have hd : decide ((b : Int) % 19 < 17) = true := by simpa using h17'
    go_wp2_with (first | refine wpList_allocT 38 zero17 alloc38 rfl rfl ?_ | refine wpList_buildTo rfl 38 _ rfl _ rfl tblV (by kernel_rfl) ?_ | refine wpList_storeT 38 zero17 tblV (by kernel_rfl) (by kernel_rfl) (by kernel_rfl) rfl _ _ rfl rfl rfl ?_)
    go_ret
    exact ⟨s, rfl, Nat.le_trans hss (by decide), hB.out⟩
  · have h17' : ¬ ((b : Int) % 19) < 17 := by omega
    have hd : decide ((b : Int) % 19 < 17) = false := by simpa using h17'
    by_cases hm0 : m = 0
    · subst hm0
      go_wp2_with (first | refine wpList_allocT 38 zero17 alloc38 rfl rfl ?_ | refine wpList_buildTo rfl 38 _ rfl _ rfl tblV (by kernel_rfl) ?_ | refine wpList_storeT 38 zero17 tblV (by kernel_rfl) (by kernel_rfl) (by kernel_rfl) rfl _ _ rfl rfl rfl ?_)
      go_ret
      exact ⟨_, rfl, by decide, hB.out⟩
    · obtain ⟨ad, rfl, hcell⟩ := hpos.out (by omega)
      have hlt : b % m < m := Nat.mod_lt _ (by omega)
      obtain ⟨s, hs, hss⟩ := hcell (b % m) hlt
      have hc : (w.alloc (.cells tblV 38)).cell? (ad.add (b % m)) = some (.string s) := by
        rw [World.cell?_alloc_lt _ _ _ (World.block_lt_of_cell? w _ hs)]; exact hs
      have hm1 : ((m : Int) == 0) = false := by
        rw [beq_eq_false_iff_ne]; omega
      clear hs hcell hpos
      go_wp2_with (first | refine wpList_allocT 38 zero17 alloc38 rfl rfl ?_ | refine wpList_buildTo rfl 38 _ rfl _ rfl tblV (by kernel_rfl) ?_ | refine wpList_storeT 38 zero17 tblV (by kernel_rfl) (by kernel_rfl) (by kernel_rfl) rfl _ _ rfl rfl rfl ?_)
      go_ret
      exact ⟨s, rfl, hss, hB.out⟩
end Go.Proofs.YbulkbrpsDoor
