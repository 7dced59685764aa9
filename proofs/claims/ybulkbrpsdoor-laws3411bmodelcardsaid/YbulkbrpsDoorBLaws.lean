/-
  THE WALKS OF THE THREE LAWS OF package discard, out of the contracts of YbulkbrpsDoorBWalks.
-/
import Derived.Test.YbulkbrpsDoorBWalks
namespace Go.Proofs.YbulkbrpsDoor
open Go.RowKit

theorem tree_later {w : World} {tt : TypeId} {fr : Nat × Nat} (hg : w.heap[0]? = some (.cells tabV tt fr)) (o o' : Obj) : ((w.alloc o).alloc o').heap[0]? = some (.cells tabV tt fr) := by
  have hlt : 0 < w.heap.size := (Array.getElem?_eq_some_iff.1 hg).1
  rw [Below.heap_alloc _ _ _ (by simp), Below.heap_alloc _ _ _ hlt]; exact hg

set_option maxHeartbeats 400000 in
theorem bindex (k : Int) (h0 : 0 ≤ k) (h1 : k ≤ 18446744073709551615) (w : World) (tt : TypeId) (fr : Nat × Nat) (hg : w.heap[0]? = some (.cells tabV tt fr)) :
    Calls Ybad.prog 5 #[.int .u64 k] w fun e w' => e = .returned (.bool true) ∧ Below w.heap.size w w' := by
  obtain ⟨i, hi, hk⟩ : ∃ i : Nat, i < 39 ∧ k % 39 = (i : Int) := ⟨(k % 39).toNat, by omega, by omega⟩
  have ht := tabV_at i hi
  have H : Hid (((w.alloc (.cells tabV 28)).alloc (.cells tabV 28)).heap[0]? = some (.cells tabV tt fr)) := tree_later hg _ _
  clear hg
  go_enter Ybad.func5, Ybad.ntmps5
  go_wp2_with (first | (go_at_call 10; refine (btable _).mono ?_; rintro e w' ⟨rfl, rfl⟩) | refine wpList_alloc28 rfl rfl ?_ | refine wpList_store28 rfl _ _ rfl (by rfl) (by rfl) ?_ | (go_at_call 11; refine (code_hit (nm i) _ tt fr H.out i hi rfl (fun q hq e => absurd (nm_inj (by omega) hi e) (by omega))).mono ?_; rintro e w' ⟨rfl, rfl⟩))
  go_ret
  exact ⟨rfl, ((Below.refl _ _).alloc (Nat.le_refl _) _).alloc (by simp) _⟩
set_option maxHeartbeats 400000 in
theorem bmodel_hit (s : ByteArray) (k : Int) (w : World) (tt : TypeId) (fr : Nat × Nat) (hg : w.heap[0]? = some (.cells tabV tt fr)) (j : Nat) (hj : j < 39) (hs : nm j = s) (hno : ∀ i, i < j → nm i ≠ s) :
    Calls Ybad.prog 6 #[.string s, .bool false, .int .u64 k] w fun e w' => e = .returned (.bool true) ∧ Below w.heap.size w w' := by
  have H : Hid (((w.alloc (.cells tabV 28)).alloc (.cells tabV 28)).heap[0]? = some (.cells tabV tt fr)) := tree_later hg _ _
  have HS : Hid (nm j = s) := hs
  have HN : Hid (∀ i, i < j → nm i ≠ s) := hno
  clear hg hs hno
  go_enter Ybad.func6, Ybad.ntmps6
  go_wp2_with (first | (go_at_call 10; refine (btable _).mono ?_; rintro e w' ⟨rfl, rfl⟩) | refine wpList_alloc28 rfl rfl ?_ | refine wpList_store28 rfl _ _ rfl (by rfl) (by rfl) ?_)
  go_loop [8, 9, 10] (fun c o i => ∃ q : Nat, q ≤ j ∧ i = .int .i64 q ∧ c = .int .u64 0 ∧ o = .bool false) (fun _ _ i => 39 - (intOf i).toNat)
  case atStart => exact ⟨0, Nat.zero_le _, rfl, rfl, rfl⟩
  case round =>
    obtain ⟨q, hq, rfl, rfl, rfl⟩ := hrel
    have ht := tabV_at q (by omega)
    by_cases hlt : q < j
    · have hne := neB (HN.out q hlt)
      go_wp2
      go_round
      case rel => exact ⟨q + 1, by omega, by go_num, rfl, rfl⟩
      case measure => simp [intOf]; omega
    · have hqj : q = j := by omega
      subst hqj
      have hne := eqB HS.out
      go_wp2_with (go_at_call 11; refine (code_hit s _ tt fr H.out q hj HS.out HN.out).mono ?_; rintro e w' ⟨rfl, rfl⟩)
      go_ret
      exact ⟨rfl, ((Below.refl _ _).alloc (Nat.le_refl _) _).alloc (by simp) _⟩

set_option maxHeartbeats 400000 in
theorem bmodel_miss (s : ByteArray) (k : Int) (w : World) (tt : TypeId) (fr : Nat × Nat) (hg : w.heap[0]? = some (.cells tabV tt fr)) (hno : ∀ i, i < 39 → nm i ≠ s) :
    Calls Ybad.prog 6 #[.string s, .bool false, .int .u64 k] w fun e w' => e = .returned (.bool true) ∧ Below w.heap.size w w' := by
  have H : Hid (((w.alloc (.cells tabV 28)).alloc (.cells tabV 28)).heap[0]? = some (.cells tabV tt fr)) := tree_later hg _ _
  have HN : Hid (∀ i, i < 39 → nm i ≠ s) := hno
  clear hg hno
  go_enter Ybad.func6, Ybad.ntmps6
  go_wp2_with (first | (go_at_call 10; refine (btable _).mono ?_; rintro e w' ⟨rfl, rfl⟩) | refine wpList_alloc28 rfl rfl ?_ | refine wpList_store28 rfl _ _ rfl (by rfl) (by rfl) ?_)
  go_loop [8, 9, 10] (fun c o i => ∃ q : Nat, q ≤ 39 ∧ i = .int .i64 q ∧ c = .int .u64 0 ∧ o = .bool false) (fun _ _ i => 39 - (intOf i).toNat)
  case atStart => exact ⟨0, Nat.zero_le _, rfl, rfl, rfl⟩
  case round =>
    obtain ⟨q, hq, rfl, rfl, rfl⟩ := hrel
    by_cases hlt : q < 39
    · have ht := tabV_at q (by omega)
      have hne := neB (HN.out q hlt)
      go_wp2
      go_round
      case rel => exact ⟨q + 1, by omega, by go_num, rfl, rfl⟩
      case measure => simp [intOf]; omega
    · go_wp2_with (go_at_call 11; refine (code_miss s _ tt fr H.out HN.out).mono ?_; rintro e w' ⟨rfl, rfl⟩)
      go_ret
      exact ⟨rfl, ((Below.refl _ _).alloc (Nat.le_refl _) _).alloc (by simp) _⟩

set_option maxHeartbeats 400000 in
theorem bmodel_pick (s : ByteArray) (k : Int) (h0 : 0 ≤ k) (h1 : k ≤ 18446744073709551615) (w : World) (tt : TypeId) (fr : Nat × Nat) (hg : w.heap[0]? = some (.cells tabV tt fr)) :
    Calls Ybad.prog 6 #[.string s, .bool true, .int .u64 k] w fun e w' => e = .returned (.bool true) ∧ Below w.heap.size w w' := by
  obtain ⟨j, hj, hk⟩ : ∃ i : Nat, i < 39 ∧ k % 39 = (i : Int) := ⟨(k % 39).toNat, by omega, by omega⟩
  have htj := tabV_at j hj
  have H : Hid (((w.alloc (.cells tabV 28)).alloc (.cells tabV 28)).heap[0]? = some (.cells tabV tt fr)) := tree_later hg _ _
  have HN : Hid (∀ i, i < j → nm i ≠ nm j) := fun q hq e => absurd (nm_inj (by omega) hj e) (by omega)
  clear hg
  go_enter Ybad.func6, Ybad.ntmps6
  go_wp2_with (first | (go_at_call 10; refine (btable _).mono ?_; rintro e w' ⟨rfl, rfl⟩) | refine wpList_alloc28 rfl rfl ?_ | refine wpList_store28 rfl _ _ rfl (by rfl) (by rfl) ?_)
  go_loop [8, 9, 10] (fun c o i => ∃ q : Nat, q ≤ j ∧ i = .int .i64 q ∧ c = .int .u64 0 ∧ o = .bool false) (fun _ _ i => 39 - (intOf i).toNat)
  case atStart => exact ⟨0, Nat.zero_le _, rfl, rfl, rfl⟩
  case round =>
    obtain ⟨q, hq, rfl, rfl, rfl⟩ := hrel
    have ht := tabV_at q (by omega)
    by_cases hlt : q < j
    · have hne := neB (HN.out q hlt)
      go_wp2
      go_round
      case rel => exact ⟨q + 1, by omega, by go_num, rfl, rfl⟩
      case measure => simp [intOf]; omega
    · have hqj : q = j := by omega
      subst hqj
      have hne := eqB (rfl : nm q = nm q)
      go_wp2_with (go_at_call 11; refine (code_hit (nm q) _ tt fr H.out q hj rfl HN.out).mono ?_; rintro e w' ⟨rfl, rfl⟩)
      go_ret
      exact ⟨rfl, ((Below.refl _ _).alloc (Nat.le_refl _) _).alloc (by simp) _⟩
theorem hide {p : Prop} (h : p) : Hid p := h
theorem unhide {p : Prop} (h : Hid p) : p := h

set_option maxHeartbeats 400000 in
theorem bround_hit (s : ByteArray) (w : World) (tt : TypeId) (fr : Nat × Nat) (hg : w.heap[0]? = some (.cells tabV tt fr)) (j : Nat) (hj : j < 39) (hs : nm j = s) (hno : ∀ i, i < j → nm i ≠ s) :
    Calls Ybad.prog 7 #[.string s] w fun e w' => e = .returned (.bool true) ∧ w' = w := by
  have hc := code_hit s w tt fr hg j hj hs hno
  have hu := code_miss ⟨#[117, 110, 107, 110, 111, 119, 110]⟩ w tt fr hg unknown_not
  have hcell : w.cell? ⟨0, j, none⟩ = some (.string (nm j)) := by rw [cell_of_row w 0 j tabV tt fr hg, tabV_at j hj]
  have ho := classOf_in j hj w hcell
  have HC := hide hc
  have HU := hide hu
  have HO := hide ho
  have hne := eqB hs
  clear hc hu ho hg hcell hno hs
  go_enter Ybad.func7, Ybad.ntmps7
  go_wp2_with fail
  refine (unhide HC).mono ?_
  rintro e w' ⟨rfl, rfl⟩
  go_wp2_with fail
  refine (unhide HO).mono ?_
  rintro e w' ⟨rfl, rfl⟩
  go_wp2_with fail
  refine (unhide HU).mono ?_
  rintro e w' ⟨rfl, rfl⟩
  go_wp2_with fail
  go_ret
  exact ⟨rfl, rfl⟩

set_option maxHeartbeats 400000 in
theorem bround_miss (s : ByteArray) (w : World) (tt : TypeId) (fr : Nat × Nat) (hg : w.heap[0]? = some (.cells tabV tt fr)) (hno : ∀ i, i < 39 → nm i ≠ s) :
    Calls Ybad.prog 7 #[.string s] w fun e w' => e = .returned (.bool true) ∧ w' = w := by
  have hc := code_miss s w tt fr hg hno
  have hu := code_miss ⟨#[117, 110, 107, 110, 111, 119, 110]⟩ w tt fr hg unknown_not
  have HC := hide hc
  have HU := hide hu
  clear hc hu hg hno
  go_enter Ybad.func7, Ybad.ntmps7
  go_wp2_with fail
  refine (unhide HC).mono ?_
  rintro e w' ⟨rfl, rfl⟩
  go_wp2_with fail
  refine (unhide HU).mono ?_
  rintro e w' ⟨rfl, rfl⟩
  go_wp2_with fail
  go_ret
  exact ⟨rfl, rfl⟩
end Go.Proofs.YbulkbrpsDoor
