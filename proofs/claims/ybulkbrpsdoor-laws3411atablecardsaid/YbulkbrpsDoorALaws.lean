/-
  THE LAWS 'record.LawS3411ARaw' AND 'record.LawS3411ATable' WALKED: both answer true.
-/
import Derived.Test.YbulkbrpsDoorACheck
import Derived.Laws.CopyOwn
namespace Go.Proofs.YbulkbrpsDoor
open Go.RowKit

theorem strs_of_row {w : World} {g : Nat} {cs : List Value} {t : TypeId} {fr : Nat × Nat} {ss : List ByteArray} (h : w.heap[g]? = some (.cells cs.toArray t fr)) (hc : cs = ss.map Value.string) : StrsAt w g ss := fun j hj => by
  rw [cell_of_row w g j _ t fr h, hc]
  simp [List.getD, hj]
theorem splice_all {cur cs : List Value} (h : cur.length = cs.length) : splice cur 0 cs = cs := by
  simp [splice, h]

set_option maxRecDepth 100000 in
set_option maxHeartbeats 2000000 in
theorem araw_any (sp : Option Addr) (n cap : Nat) (ss : List ByteArray) (w : World) (hl : Hid (ss.length = n)) (hpos : Hid (0 < n → ∃ ad, sp = some ad ∧ ∀ j, j < n → w.cell? (ad.add j) = some (.string (ss.getD j ByteArray.empty))))
    (h1 : Hid (∀ j, j < 5 → w.cell? ⟨1, j, none⟩ = some (.string (ST j)))) (h2 : Hid (∀ j, j < 5 → w.cell? ⟨2, j, none⟩ = some (.string (EN j)))) (hg : 2 < w.heap.size) (hsz : Hid (∀ j, (ss.getD j ByteArray.empty).size ≤ maxLen)) :
    Calls Ybad.prog 4 #[.slice sp n cap] w fun e w' => e = .returned (.bool true) ∧ Below w.heap.size w w' := by
  go_enter Ybad.func4, Ybad.ntmps4
  by_cases hn : n ≤ 1024
  · have hmk := make23 n hn
    obtain ⟨cs, hcs⟩ : ∃ cs, Hid (cs = ss.map Value.string) := ⟨_, rfl⟩
    obtain ⟨Z, hZ⟩ : ∃ Z : List Value, Hid (madeCells #[.string ⟨#[]⟩] (n * 1) = Z.toArray) := ⟨(madeCells #[.string ⟨#[]⟩] (n * 1)).toList, by show _ = _; simp⟩
    rw [hZ.out] at hmk
    have hZl : Hid (Z.length = n) := by
      show _ = _
      rw [← List.size_toArray, ← hZ.out, size_madeCells, Nat.mul_one]
    have hcl : Hid (cs.length = n) := by show _ = _; rw [hcs.out, List.length_map, hl.out]
    have hg0 : Hid ((w.alloc (.cells Z.toArray 9)).heap[w.heap.size]? = some (.cells Z.toArray 9 (0, 0))) := heap_alloc_new _ _
    have hp2 : Hid (0 < cs.length → ∃ ad, sp = some ad ∧ ∀ j v, cs[j]? = some v → (w.alloc (.cells Z.toArray 9)).cell? (ad.add j) = some v) := fun h0 => by
      rw [hcl.out] at h0
      obtain ⟨ad, e, hc⟩ := hpos.out h0
      refine ⟨ad, e, fun j v hv => ?_⟩
      have hj : j < n := by rw [← hcl.out]; exact (List.getElem?_eq_some_iff.1 hv).1
      have hcj := hc j hj
      rw [World.cell?_alloc_lt _ _ _ (World.block_lt_of_cell? w _ hcj), hcj, ← hv, hcs.out]
      have hj' : j < ss.length := by rw [hl.out]; exact hj
      simp [List.getD, hj']
    have hone : Hid (∀ v ∈ cs, v.oneCell' = true) := fun v hv => by
      rw [hcs.out] at hv
      obtain ⟨s, _, rfl⟩ := List.mem_map.1 hv
      rfl
    have hB0 : Hid (Below w.heap.size w (w.alloc (.cells Z.toArray 9))) := (Below.refl _ _).alloc (Nat.le_refl _) _
    have hcall : Hid (∀ w' : World, w'.heap[w.heap.size]? = some (.cells (splice Z 0 cs).toArray 9 (0, 0)) → Below w.heap.size w w' → Calls Ybad.prog 9 #[.slice (some ⟨w.heap.size, 0, none⟩) n n] w' fun e w2 => e = .returned (.bool true) ∧ Below w.heap.size w w2) := fun w' hh hb => by
      rw [splice_all (by rw [hcl.out, hZl.out])] at hh
      have hlt : w.heap.size < w'.heap.size := (Array.getElem?_eq_some_iff.1 hh).1
      refine (acheck_any ss n hn w.heap.size w' hl (strs_of_row hh hcs.out) hlt (fun j hj => ?_) (fun j hj => ?_) (by omega) hsz).mono fun e w2 ⟨he, hb2⟩ => ⟨he, hb.trans (hb2.mono (Nat.le_of_lt hlt))⟩
      · rw [hb.cell (p := ⟨1, j, none⟩) (by simp; omega)]; exact h1.out j hj
      · rw [hb.cell (p := ⟨2, j, none⟩) (by simp; omega)]; exact h2.out j hj
    go_wp2_with (first | (refine wpList_copy_splice rfl _ _ 23 23 rfl 9 Ybad.underlying23 (by kernel_rfl) (some ⟨w.heap.size, 0, none⟩) sp n n n cap rfl rfl w.heap.size 0 Z 9 hg0.out cs (by rw [hcl.out]; exact (Nat.min_self n).symm) (fun h0 => ⟨rfl, hp2.out h0⟩) (by rw [hcl.out, hZl.out]; omega) hone.out w.heap.size w hB0.out (Nat.le_refl _) ?_; intro w' hh hb) | (go_at_call 9; refine (hcall.out w' hh.out hb).mono ?_; rintro e w2 ⟨rfl, hb2⟩))
    go_ret
    exact ⟨rfl, hb2⟩
  · go_wp2
    go_ret
    exact ⟨rfl, Below.refl _ _⟩
end Go.Proofs.YbulkbrpsDoor
