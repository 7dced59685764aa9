/-
  THE WALK OF LawS3411CWhole: the registry has the table's 35 rows, each as the table has it.
-/
import Derived.Test.YbulkbrpsLookup
import Derived.BigQuiet
import Derived.Deep.QuietTactic
namespace Go.Proofs.Ybulkbrps
open Go Go.RowKit

set_option maxRecDepth 10000 in
set_option maxHeartbeats 800000 in
theorem cwhole_any (w : World) :
    Calls Yba.prog 4 #[] w fun e w' => e = .returned (.bool true) ∧ Below w.heap.size w w' := by
  go_enter Yba.func4, Yba.ntmps4
  go_wp2_with fail
  refine (builtin_abs _).mono ?_
  rintro e w1 ⟨rfl, es, c, hF0, hb0, hB0, hz0⟩
  have hF : Hid (Full es) := hF0
  have hb : Hid (w1.heap[w.heap.size]? = some (.map es c)) := hb0
  have hB : Hid (Below w.heap.size w w1) := hB0
  have hz : Hid (w1.heap.size = w.heap.size + 1) := hz0
  have hlen := fun ty => run_len (w1.alloc (.cells CELLS 38)) w.heap.size ty hF0 (by rw [Below.heap_alloc _ _ _ (by omega)]; exact hb0)
  clear hF0 hb0 hB0 hz0
  go_wp2_with (go_at_call 8; refine (ctable_any _).mono ?_; rintro e w' ⟨rfl, rfl⟩)
  go_loopw [3] (fun i wr => ∃ q : Nat, q ≤ 35 ∧ i = .int .i64 q ∧ Below (w1.heap.size + 1) (w1.alloc (.cells CELLS 38)) wr) (fun i _ => 35 - (intOf i).toNat)
  case atStart => exact ⟨0, Nat.zero_le _, rfl, Below.refl _ _⟩
  case round =>
    obtain ⟨q, hq, rfl, hbr⟩ := hrel
    rename_i wr
    have HB : Hid (Below (w1.heap.size + 1) (w1.alloc (.cells CELLS 38)) wr) := hbr
    have hsz : w1.heap.size < wr.heap.size := by have := hbr.size; simp at this; omega
    by_cases hlt : q < 35
    · have c0 : wr.cell? ⟨w1.heap.size, q * 4, none⟩ = some (.int .u32 (ent q)) := by rw [hbr.cell (p := ⟨w1.heap.size, q * 4, none⟩) (by simp)]; simp [at0 q hlt]
      have c1 : wr.cell? ⟨w1.heap.size, q * 4 + 1, none⟩ = some (.int .u16 (el q)) := by rw [hbr.cell (p := ⟨w1.heap.size, q * 4 + 1, none⟩) (by simp)]; simp [at1 q hlt]
      have c2 : wr.cell? ⟨w1.heap.size, q * 4 + 2, none⟩ = some (.string (name q)) := by rw [hbr.cell (p := ⟨w1.heap.size, q * 4 + 2, none⟩) (by simp)]; simp [at2 q hlt]
      have c3 : wr.cell? ⟨w1.heap.size, q * 4 + 3, none⟩ = some (.string (typ q)) := by rw [hbr.cell (p := ⟨w1.heap.size, q * 4 + 3, none⟩) (by simp)]; simp [at3 q hlt]
      have hm : wr.heap[w.heap.size]? = some (.map es c) := by
        have := hz.out
        rw [hbr.block _ (by omega), Below.heap_alloc _ _ _ (by omega)]; exact hb.out
      have hl1 := look_hit wr.drew w.heap.size q (ent q) (el q) hlt rfl rfl hF.out hm
      have hl2 := look_hit (wr.alloc (.cells #[.string ⟨#[]⟩, .string ⟨#[]⟩] 29)).drew w.heap.size q (ent q) (el q) hlt rfl rfl hF.out (by have := hz.out; show (wr.alloc _).heap[w.heap.size]? = _; rw [Below.heap_alloc _ _ _ (by omega)]; exact hm)
      clear hbr hm
      go_wp2
      go_region
      all_goals
        go_wp2
        go_quiet (fail)
        go_wp2
        go_roundw
        case rel =>
          refine ⟨q + 1, by omega, by go_num, ?_⟩
          repeat (first | exact HB.out | refine drewN_below ?_ _ | refine Below.drew ?_ | refine Below.setCell ?_ (by simp; omega) _ | refine Below.alloc ?_ (by omega) _ | refine Below.alloc ?_ (by simp; omega) _)
        case measure => simp [intOf]; omega
    · clear hbr
      go_wp2
      go_ret
      have := hz.out
      exact ⟨rfl, (hB.out.alloc (by omega) _).trans (HB.out.mono (by omega))⟩
end Go.Proofs.Ybulkbrps
