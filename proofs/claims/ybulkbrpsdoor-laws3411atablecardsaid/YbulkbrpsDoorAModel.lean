/-
  record.zzs3411amodel: the law's own reckoning of the positions.
-/
import Derived.Test.YbulkbrpsDoorAEnv
namespace Go.Proofs.YbulkbrpsDoor
open Go.RowKit

theorem below_setRow {B : Nat} {a w : World} (h : Below B a w) {g : Nat} (hg : B ≤ g) (cs : Array Value) : Below B a (w.setRow g cs) :=
  h.trans ⟨rfl, rfl, rfl, by simp, fun k hk => setRow_other w g k cs (by omega)⟩

/-- What stays while the 'positions' in the fifth block is filled. -/
structure MEnv (w wr : World) : Prop where
  src : ∀ j, j < 3 → wr.cell? ⟨w.heap.size + 1, j, none⟩ = some (.string (SRC j))
  st : ∀ j, j < 5 → wr.cell? ⟨w.heap.size + 1 + 1, j, none⟩ = some (.string (ST j))
  en : ∀ j, j < 5 → wr.cell? ⟨w.heap.size + 1 + 1 + 1, j, none⟩ = some (.string (EN j))
  res : wr.heap[w.heap.size]? = some (.cells zeroP 46 (0, 0))
  below : Below w.heap.size w wr

theorem MEnv.set {w wr : World} (h : MEnv w wr) (i : Nat) (v : Value) : MEnv w (wr.setCell ⟨w.heap.size + 1 + 1 + 1 + 1, i, none⟩ v) where
  src j hj := by rw [World.cell?_of_block (w := wr) (Below.heap_setCell _ _ _ _ (by simp))]; exact h.src j hj
  st j hj := by rw [World.cell?_of_block (w := wr) (Below.heap_setCell _ _ _ _ (by simp))]; exact h.st j hj
  en j hj := by rw [World.cell?_of_block (w := wr) (Below.heap_setCell _ _ _ _ (by simp))]; exact h.en j hj
  res := by rw [Below.heap_setCell _ _ _ _ (by simp; omega)]; exact h.res
  below := h.below.setCell (by simp; omega) _

theorem heap5 (w : World) (a b c d e : Obj) (k : Nat) : ((((((w.alloc a).alloc b).alloc c).alloc d).alloc e)).heap[k]? =
    if k = w.heap.size + 4 then some e else if k = w.heap.size + 3 then some d else if k = w.heap.size + 2 then some c else if k = w.heap.size + 1 then some b else if k = w.heap.size then some a else w.heap[k]? := by
  show (((((w.heap.push a).push b).push c).push d).push e)[k]? = _
  simp only [Array.getElem?_push, Array.size_push]

theorem menv_start (w : World) (S T E P : Array Value) (hS : ∀ j, j < 3 → S[j]? = some (.string (SRC j))) (hT : ∀ j, j < 5 → T[j]? = some (.string (ST j))) (hE : ∀ j, j < 5 → E[j]? = some (.string (EN j))) :
    MEnv w (((((w.alloc (.cells zeroP 46)).alloc (.cells S 58)).alloc (.cells T 55)).alloc (.cells E 55)).alloc (.cells P 46)) where
  src j hj := by rw [cell_of_row _ (w.heap.size + 1) j S 58 (0, 0) (by rw [heap5]; simp)]; exact hS j hj
  st j hj := by rw [cell_of_row _ (w.heap.size + 1 + 1) j T 55 (0, 0) (by rw [heap5]; simp)]; exact hT j hj
  en j hj := by rw [cell_of_row _ (w.heap.size + 1 + 1 + 1) j E 55 (0, 0) (by rw [heap5]; simp)]; exact hE j hj
  res := by rw [heap5]; simp
  below := (((((Below.refl _ _).alloc (Nat.le_refl _) _).alloc (by simp) _).alloc (by simp; omega) _).alloc (by simp; omega) _).alloc (by simp; omega) _

theorem pat_start (w : World) (a b c d : Obj) : PAt (((((w.alloc a).alloc b).alloc c).alloc d).alloc (.cells zeroP 46)) (w.heap.size + 1 + 1 + 1 + 1) (fun _ => 0) (fun _ => 0) (fun _ => 0) false := by
  unfold PAt; rw [heap5]; simp [zeroP]

set_option maxRecDepth 100000 in
set_option maxHeartbeats 1000000 in
theorem amodel_any (ns : List ByteArray) (n : Nat) (hn : n ≤ 1024) (bn : Nat) (w : World) (hl : Hid (ns.length = n)) (hs : Hid (StrsAt w bn ns)) (hb : bn < w.heap.size) :
    Calls Ybad.prog 14 #[.slice (some ⟨bn, 0, none⟩) n n] w fun e w' => ∃ r : Bool, (r = true ↔ twice ns n) ∧ e = .returned (.agg (posTo ns n r)) ∧ Below w.heap.size w w' := by
  go_enter Ybad.func14, Ybad.ntmps14
  go_wp2
  go_loopw [17] (fun i wr => ∃ q : Nat, q ≤ 5 ∧ i = .int .i64 q ∧ MEnv w wr ∧ PAt wr (w.heap.size + 1 + 1 + 1 + 1) (mix (fun _ => -1) (fun _ => 0) q) (mix (fun _ => -1) (fun _ => 0) q) (fun _ => 0) false) (fun i _ => 5 - (intOf i).toNat)
  case atStart =>
    exact ⟨0, by omega, rfl, menv_start w srcV stV enV zeroP srcV_at stV_at enV_at, (pat_start w _ _ _ _).congr (fun j _ => (mix_none (fun _ => -1) (fun _ => 0) j).symm) (fun j _ => (mix_none (fun _ => -1) (fun _ => 0) j).symm) (fun _ _ => rfl) rfl⟩
  case round =>
    obtain ⟨q, hq, rfl, hE0, hP0⟩ := hrel
    have hE : Hid (MEnv w wr) := hE0
    have hP : Hid (PAt wr (w.heap.size + 1 + 1 + 1 + 1) (mix (fun _ => -1) (fun _ => 0) q) (mix (fun _ => -1) (fun _ => 0) q) (fun _ => 0) false) := hP0
    by_cases hlt : q < 5
    · have c1 := hP0.at_f q hlt
      have f1 := hP0.free q
      have c2 := (hP0.set_f q hlt (-1)).at_g q hlt
      have f2 := (hP0.set_f q hlt (-1)).free (5 + q)
      clear hE0 hP0
      go_wp2
      go_roundw
      case rel =>
        refine ⟨q + 1, by omega, by go_num, (hE.out.set _ _).set _ _, ((hP.out.set_f q hlt (-1)).set_g q hlt (-1)).congr (fun j _ => mix_upd rfl j) (fun j _ => mix_upd rfl j) (fun _ _ => rfl) rfl⟩
      case measure => simp [intOf]; omega
    · have hq5 : q = 5 := by omega
      clear hE0 hP0
      go_wp2
      go_loopw [27] (fun i wr => ∃ q : Nat, q ≤ 3 ∧ i = .int .i64 q ∧ MEnv w wr ∧ PAt wr (w.heap.size + 1 + 1 + 1 + 1) (fun _ => -1) (fun _ => -1) (mix (fun _ => -1) (fun _ => 0) q) false) (fun i _ => 3 - (intOf i).toNat)
      case atStart =>
        subst hq5
        exact ⟨0, by omega, rfl, hE.out, hP.out.congr (fun j hj => mix_all (fun _ => -1) (fun _ => 0) 5 j hj) (fun j hj => mix_all (fun _ => -1) (fun _ => 0) 5 j hj) (fun j _ => (mix_none (fun _ => -1) (fun _ => 0) j).symm) rfl⟩
      case round =>
        clear hE hP hq5 hq hlt
        obtain ⟨q, hq, rfl, hE0, hP0⟩ := hrel
        have hE : Hid (MEnv w wr) := hE0
        have hP : Hid (PAt wr (w.heap.size + 1 + 1 + 1 + 1) (fun _ => -1) (fun _ => -1) (mix (fun _ => -1) (fun _ => 0) q) false) := hP0
        by_cases hlt : q < 3
        · have c1 := hP0.at_h q hlt
          have f1 := hP0.free (10 + q)
          clear hE0 hP0
          go_wp2
          go_roundw
          case rel =>
            exact ⟨q + 1, by omega, by go_num, hE.out.set _ _, (hP.out.set_h q hlt (-1)).congr (fun _ _ => rfl) (fun _ _ => rfl) (fun j _ => mix_upd rfl j) rfl⟩
          case measure => simp [intOf]; omega
        · have hq3 : q = 3 := by omega
          clear hE0 hP0
          go_wp2
          go_loopw [36] (fun i wr => ∃ k : Nat, k ≤ n ∧ i = .int .i64 k ∧ MEnv w wr ∧ ∃ r : Bool, (r = true ↔ twice ns k) ∧ PAt wr (w.heap.size + 1 + 1 + 1 + 1) (fun j => atTo (ST j) ns k) (fun j => atTo (EN j) ns k) (fun j => atTo (SRC j) ns k) r) (fun i _ => n - (intOf i).toNat)
          case atStart =>
            subst hq3
            exact ⟨0, Nat.zero_le _, rfl, hE.out, false, by simp [twice_zero], hP.out.congr (fun _ _ => rfl) (fun _ _ => rfl) (fun j hj => mix_all (fun _ => -1) (fun _ => 0) 3 j hj) rfl⟩
          case round =>
            clear hE hP hq3 hq hlt
            obtain ⟨k, hk, rfl, hE0, r, hr0, hP0⟩ := hrel
            have hE : Hid (MEnv w wr) := hE0
            have hr : Hid (r = true ↔ twice ns k) := hr0
            by_cases hlt : k < n
            · obtain ⟨F, hFe⟩ : ∃ F : Nat → Int, Hid (F = fun j => atTo (ST j) ns k) := ⟨_, rfl⟩
              obtain ⟨G, hGe⟩ : ∃ G : Nat → Int, Hid (G = fun j => atTo (EN j) ns k) := ⟨_, rfl⟩
              obtain ⟨H, hHe⟩ : ∃ H : Nat → Int, Hid (H = fun j => atTo (SRC j) ns k) := ⟨_, rfl⟩
              have cx := hs.out.later hE0.below hb k (by rw [hl.out]; exact hlt)
              obtain ⟨x, hxe⟩ : ∃ x, Hid (x = ns.getD k ByteArray.empty) := ⟨_, rfl⟩
              rw [← hxe.out] at cx
              have hP : Hid (PAt wr (w.heap.size + 1 + 1 + 1 + 1) F G H r) := by rw [hFe.out, hGe.out, hHe.out]; exact hP0
              clear hE0 hr0 hP0
              go_wp2
              go_loopw [11] (fun i wr => ∃ q : Nat, q ≤ 3 ∧ i = .int .i64 q ∧ MEnv w wr ∧ PAt wr (w.heap.size + 1 + 1 + 1 + 1) F G (mix (fun j => step (SRC j) x k (H j)) H q) r) (fun i _ => 3 - (intOf i).toNat)
              case atStart =>
                exact ⟨0, by omega, rfl, hE.out, hP.out.congr (fun _ _ => rfl) (fun _ _ => rfl) (fun j _ => (mix_none _ H j).symm) rfl⟩
              case round =>
                clear hE hP cx
                obtain ⟨q, hq, rfl, hE0, hP0⟩ := hrel
                have hE : Hid (MEnv w wr) := hE0
                have hP : Hid (PAt wr (w.heap.size + 1 + 1 + 1 + 1) F G (mix (fun j => step (SRC j) x k (H j)) H q) r) := hP0
                by_cases hlt3 : q < 3
                · have c1 := hP0.at_h q hlt3
                  rw [mix_at] at c1
                  have f1 := hP0.free (10 + q)
                  have cs := hE0.src q hlt3
                  clear hE0 hP0
                  by_cases hxs : x = SRC q
                  · by_cases hv : H q < 0
                    · have hst : Hid (step (SRC q) x k (H q) = k) := step_hit hxs hv
                      have hne := eqS hxs
                      have hxs' : Hid (x = SRC q) := hxs
                      clear hxs
                      obtain ⟨s, hse⟩ : ∃ s, Hid (s = SRC q) := ⟨_, rfl⟩
                      rw [← hse.out] at cs hne
                      obtain ⟨v, hve⟩ : ∃ v, Hid (v = H q) := ⟨_, rfl⟩
                      rw [← hve.out] at c1 hv
                      go_wp2
                      go_roundw
                      case rel => exact ⟨q + 1, by omega, by go_num, hE.out.set _ _, (hP.out.set_h q hlt3 k).congr (fun _ _ => rfl) (fun _ _ => rfl) (fun j _ => mix_upd hst.out j) rfl⟩
                      case measure => simp [intOf]; omega
                    · have hst : Hid (step (SRC q) x k (H q) = H q) := step_kept hv
                      have hne := eqS hxs
                      clear hxs
                      obtain ⟨s, hse⟩ : ∃ s, Hid (s = SRC q) := ⟨_, rfl⟩
                      rw [← hse.out] at cs hne
                      obtain ⟨v, hve⟩ : ∃ v, Hid (v = H q) := ⟨_, rfl⟩
                      rw [← hve.out] at c1 hv
                      go_wp2
                      go_roundw
                      case rel => exact ⟨q + 1, by omega, by go_num, hE.out, hP.out.congr (fun _ _ => rfl) (fun _ _ => rfl) (fun j _ => mix_kept hst.out j) rfl⟩
                      case measure => simp [intOf]; omega
                  · have hst : Hid (step (SRC q) x k (H q) = H q) := step_other hxs k _
                    have hne := neS hxs
                    clear hxs
                    obtain ⟨s, hse⟩ : ∃ s, Hid (s = SRC q) := ⟨_, rfl⟩
                    rw [← hse.out] at cs hne
                    go_wp2
                    go_roundw
                    case rel => exact ⟨q + 1, by omega, by go_num, hE.out, hP.out.congr (fun _ _ => rfl) (fun _ _ => rfl) (fun j _ => mix_kept hst.out j) rfl⟩
                    case measure => simp [intOf]; omega
                · have hP4 : Hid (PAt wr (w.heap.size + 1 + 1 + 1 + 1) F G (fun j => step (SRC j) x k (H j)) r) := by
                    have : q = 3 := by omega
                    subst this
                    exact hP0.congr (fun _ _ => rfl) (fun _ _ => rfl) (fun j hj => mix_all _ _ 3 j hj) rfl
                  clear hE0 hP0 hP
                  go_wp2
                  clear hlt3 hq
                  go_loopw [66] (fun i wr => ∃ q : Nat, q ≤ 5 ∧ i = .int .i64 q ∧ MEnv w wr ∧ PAt wr (w.heap.size + 1 + 1 + 1 + 1) (mix (fun j => step (ST j) x k (F j)) F q) (mix (fun j => step (EN j) x k (G j)) G q) (fun j => step (SRC j) x k (H j)) r) (fun i _ => 5 - (intOf i).toNat)
                  case atStart =>
                    exact ⟨0, by omega, rfl, hE.out, hP4.out.congr (fun j _ => (mix_none _ F j).symm) (fun j _ => (mix_none _ G j).symm) (fun _ _ => rfl) rfl⟩
                  case round =>
                    clear hE hP4
                    obtain ⟨q, hq, rfl, hE0, hP0⟩ := hrel
                    have hE : Hid (MEnv w wr) := hE0
                    have hP : Hid (PAt wr (w.heap.size + 1 + 1 + 1 + 1) (mix (fun j => step (ST j) x k (F j)) F q) (mix (fun j => step (EN j) x k (G j)) G q) (fun j => step (SRC j) x k (H j)) r) := hP0
                    by_cases hlt5 : q < 5
                    · have c1 := hP0.at_f q hlt5
                      rw [mix_at] at c1
                      have f1 := hP0.free q
                      have cs1 := hE0.st q hlt5
                      by_cases hxs : x = ST q
                      · by_cases hv : F q < 0
                        · have hst1 : Hid (step (ST q) x k (F q) = k) := step_hit hxs hv
                          have hne := eqS hxs
                          have c2 := (hP0.set_f q hlt5 k).at_g q hlt5
                          rw [mix_at] at c2
                          have f2 := (hP0.set_f q hlt5 k).free (5 + q)
                          have ce2 := (hE0.set q (.int .i32 k)).en q hlt5
                          clear hxs hE0 hP0
                          obtain ⟨s1, hs1⟩ : ∃ s, Hid (s = ST q) := ⟨_, rfl⟩
                          rw [← hs1.out] at cs1 hne
                          obtain ⟨v1, hv1⟩ : ∃ v, Hid (v = F q) := ⟨_, rfl⟩
                          rw [← hv1.out] at c1 hv
                          by_cases hxs2 : x = EN q
                          · by_cases hv2 : G q < 0
                            · have hst2 : Hid (step (EN q) x k (G q) = k) := step_hit hxs2 hv2
                              have hne2 := eqS hxs2
                              clear hxs2
                              obtain ⟨s2, hs2⟩ : ∃ s, Hid (s = EN q) := ⟨_, rfl⟩
                              rw [← hs2.out] at ce2 hne2
                              obtain ⟨v2, hv2e⟩ : ∃ v, Hid (v = G q) := ⟨_, rfl⟩
                              rw [← hv2e.out] at c2 hv2
                              go_wp2
                              go_roundw
                              case rel => exact ⟨q + 1, by omega, by go_num, ((hE.out.set _ _).set _ _), ((hP.out.set_f q hlt5 k).set_g q hlt5 k).congr (fun j _ => mix_upd hst1.out j) (fun j _ => mix_upd hst2.out j) (fun _ _ => rfl) rfl⟩
                              case measure => simp [intOf]; omega
                            · have hst2 : Hid (step (EN q) x k (G q) = G q) := step_kept hv2
                              have hne2 := eqS hxs2
                              clear hxs2
                              obtain ⟨s2, hs2⟩ : ∃ s, Hid (s = EN q) := ⟨_, rfl⟩
                              rw [← hs2.out] at ce2 hne2
                              obtain ⟨v2, hv2e⟩ : ∃ v, Hid (v = G q) := ⟨_, rfl⟩
                              rw [← hv2e.out] at c2 hv2
                              go_wp2
                              go_roundw
                              case rel => exact ⟨q + 1, by omega, by go_num, (hE.out.set _ _), (hP.out.set_f q hlt5 k).congr (fun j _ => mix_upd hst1.out j) (fun j _ => mix_kept hst2.out j) (fun _ _ => rfl) rfl⟩
                              case measure => simp [intOf]; omega
                          · have hst2 : Hid (step (EN q) x k (G q) = G q) := step_other hxs2 k _
                            have hne2 := neS hxs2
                            clear hxs2
                            obtain ⟨s2, hs2⟩ : ∃ s, Hid (s = EN q) := ⟨_, rfl⟩
                            rw [← hs2.out] at ce2 hne2
                            go_wp2
                            go_roundw
                            case rel => exact ⟨q + 1, by omega, by go_num, (hE.out.set _ _), (hP.out.set_f q hlt5 k).congr (fun j _ => mix_upd hst1.out j) (fun j _ => mix_kept hst2.out j) (fun _ _ => rfl) rfl⟩
                            case measure => simp [intOf]; omega
                        · have hst1 : Hid (step (ST q) x k (F q) = F q) := step_kept hv
                          have hne := eqS hxs
                          have c2 := hP0.at_g q hlt5
                          rw [mix_at] at c2
                          have f2 := hP0.free (5 + q)
                          have ce2 := hE0.en q hlt5
                          clear hxs hE0 hP0
                          obtain ⟨s1, hs1⟩ : ∃ s, Hid (s = ST q) := ⟨_, rfl⟩
                          rw [← hs1.out] at cs1 hne
                          obtain ⟨v1, hv1⟩ : ∃ v, Hid (v = F q) := ⟨_, rfl⟩
                          rw [← hv1.out] at c1 hv
                          by_cases hxs2 : x = EN q
                          · by_cases hv2 : G q < 0
                            · have hst2 : Hid (step (EN q) x k (G q) = k) := step_hit hxs2 hv2
                              have hne2 := eqS hxs2
                              clear hxs2
                              obtain ⟨s2, hs2⟩ : ∃ s, Hid (s = EN q) := ⟨_, rfl⟩
                              rw [← hs2.out] at ce2 hne2
                              obtain ⟨v2, hv2e⟩ : ∃ v, Hid (v = G q) := ⟨_, rfl⟩
                              rw [← hv2e.out] at c2 hv2
                              go_wp2
                              go_roundw
                              case rel => exact ⟨q + 1, by omega, by go_num, (hE.out.set _ _), (hP.out.set_g q hlt5 k).congr (fun j _ => mix_kept hst1.out j) (fun j _ => mix_upd hst2.out j) (fun _ _ => rfl) rfl⟩
                              case measure => simp [intOf]; omega
                            · have hst2 : Hid (step (EN q) x k (G q) = G q) := step_kept hv2
                              have hne2 := eqS hxs2
                              clear hxs2
                              obtain ⟨s2, hs2⟩ : ∃ s, Hid (s = EN q) := ⟨_, rfl⟩
                              rw [← hs2.out] at ce2 hne2
                              obtain ⟨v2, hv2e⟩ : ∃ v, Hid (v = G q) := ⟨_, rfl⟩
                              rw [← hv2e.out] at c2 hv2
                              go_wp2
                              go_roundw
                              case rel => exact ⟨q + 1, by omega, by go_num, hE.out, hP.out.congr (fun j _ => mix_kept hst1.out j) (fun j _ => mix_kept hst2.out j) (fun _ _ => rfl) rfl⟩
                              case measure => simp [intOf]; omega
                          · have hst2 : Hid (step (EN q) x k (G q) = G q) := step_other hxs2 k _
                            have hne2 := neS hxs2
                            clear hxs2
                            obtain ⟨s2, hs2⟩ : ∃ s, Hid (s = EN q) := ⟨_, rfl⟩
                            rw [← hs2.out] at ce2 hne2
                            go_wp2
                            go_roundw
                            case rel => exact ⟨q + 1, by omega, by go_num, hE.out, hP.out.congr (fun j _ => mix_kept hst1.out j) (fun j _ => mix_kept hst2.out j) (fun _ _ => rfl) rfl⟩
                            case measure => simp [intOf]; omega
                      · have hst1 : Hid (step (ST q) x k (F q) = F q) := step_other hxs k _
                        have hne := neS hxs
                        have c2 := hP0.at_g q hlt5
                        rw [mix_at] at c2
                        have f2 := hP0.free (5 + q)
                        have ce2 := hE0.en q hlt5
                        clear hxs hE0 hP0
                        obtain ⟨s1, hs1⟩ : ∃ s, Hid (s = ST q) := ⟨_, rfl⟩
                        rw [← hs1.out] at cs1 hne
                        by_cases hxs2 : x = EN q
                        · by_cases hv2 : G q < 0
                          · have hst2 : Hid (step (EN q) x k (G q) = k) := step_hit hxs2 hv2
                            have hne2 := eqS hxs2
                            clear hxs2
                            obtain ⟨s2, hs2⟩ : ∃ s, Hid (s = EN q) := ⟨_, rfl⟩
                            rw [← hs2.out] at ce2 hne2
                            obtain ⟨v2, hv2e⟩ : ∃ v, Hid (v = G q) := ⟨_, rfl⟩
                            rw [← hv2e.out] at c2 hv2
                            go_wp2
                            go_roundw
                            case rel => exact ⟨q + 1, by omega, by go_num, (hE.out.set _ _), (hP.out.set_g q hlt5 k).congr (fun j _ => mix_kept hst1.out j) (fun j _ => mix_upd hst2.out j) (fun _ _ => rfl) rfl⟩
                            case measure => simp [intOf]; omega
                          · have hst2 : Hid (step (EN q) x k (G q) = G q) := step_kept hv2
                            have hne2 := eqS hxs2
                            clear hxs2
                            obtain ⟨s2, hs2⟩ : ∃ s, Hid (s = EN q) := ⟨_, rfl⟩
                            rw [← hs2.out] at ce2 hne2
                            obtain ⟨v2, hv2e⟩ : ∃ v, Hid (v = G q) := ⟨_, rfl⟩
                            rw [← hv2e.out] at c2 hv2
                            go_wp2
                            go_roundw
                            case rel => exact ⟨q + 1, by omega, by go_num, hE.out, hP.out.congr (fun j _ => mix_kept hst1.out j) (fun j _ => mix_kept hst2.out j) (fun _ _ => rfl) rfl⟩
                            case measure => simp [intOf]; omega
                        · have hst2 : Hid (step (EN q) x k (G q) = G q) := step_other hxs2 k _
                          have hne2 := neS hxs2
                          clear hxs2
                          obtain ⟨s2, hs2⟩ : ∃ s, Hid (s = EN q) := ⟨_, rfl⟩
                          rw [← hs2.out] at ce2 hne2
                          go_wp2
                          go_roundw
                          case rel => exact ⟨q + 1, by omega, by go_num, hE.out, hP.out.congr (fun j _ => mix_kept hst1.out j) (fun j _ => mix_kept hst2.out j) (fun _ _ => rfl) rfl⟩
                          case measure => simp [intOf]; omega
                    · have hP5 : Hid (PAt wr (w.heap.size + 1 + 1 + 1 + 1) (fun j => step (ST j) x k (F j)) (fun j => step (EN j) x k (G j)) (fun j => step (SRC j) x k (H j)) r) := by
                        have : q = 5 := by omega
                        subst this
                        exact hP0.congr (fun j hj => mix_all _ _ 5 j hj) (fun j hj => mix_all _ _ 5 j hj) (fun _ _ => rfl) rfl
                      clear hE0 hP0 hP
                      go_wp2
                      clear hlt5 hq
                      go_loopw [13] (fun i wr => ∃ q : Nat, q ≤ k ∧ i = .int .i64 q ∧ MEnv w wr ∧ ∃ r' : Bool, (r' = true ↔ twice ns k ∨ among ns q x) ∧ PAt wr (w.heap.size + 1 + 1 + 1 + 1) (fun j => step (ST j) x k (F j)) (fun j => step (EN j) x k (G j)) (fun j => step (SRC j) x k (H j)) r') (fun i _ => k - (intOf i).toNat)
                      case atStart =>
                        exact ⟨0, by omega, rfl, hE.out, r, hr.out.trans ⟨Or.inl, fun h => h.elim id (fun ⟨_, h, _⟩ => by omega)⟩, hP5.out⟩
                      case round =>
                        clear hE hP5
                        obtain ⟨q, hq, rfl, hE0, r', hr0', hP0⟩ := hrel
                        have hE : Hid (MEnv w wr) := hE0
                        have hr' : Hid (r' = true ↔ twice ns k ∨ among ns q x) := hr0'
                        have hP : Hid (PAt wr (w.heap.size + 1 + 1 + 1 + 1) (fun j => step (ST j) x k (F j)) (fun j => step (EN j) x k (G j)) (fun j => step (SRC j) x k (H j)) r') := hP0
                        by_cases hltk : q < k
                        · have cy := hs.out.later hE0.below hb q (by rw [hl.out]; omega)
                          have c13 := hP0.at_r
                          have f13 := hP0.free 13
                          obtain ⟨y, hye⟩ : ∃ y, Hid (y = ns.getD q ByteArray.empty) := ⟨_, rfl⟩
                          rw [← hye.out] at cy
                          clear hE0 hP0 hr0'
                          by_cases hyx : y = x
                          · have hne := eqS hyx
                            have hyx' : Hid (y = x) := hyx
                            clear hyx
                            go_wp2
                            go_roundw
                            case rel =>
                              refine ⟨q + 1, by omega, by go_num, hE.out.set _ _, true, ?_, hP.out.set_r true⟩
                              exact ⟨fun _ => Or.inr ⟨q, by omega, hye.out.symm.trans hyx'.out⟩, fun _ => rfl⟩
                            case measure => simp [intOf]; omega
                          · have hne := neS hyx
                            have hyx' : Hid (y ≠ x) := hyx
                            clear hyx
                            go_wp2
                            go_roundw
                            case rel =>
                              refine ⟨q + 1, by omega, by go_num, hE.out, r', hr'.out.trans ⟨fun h => h.imp id (fun ⟨j, hj, e⟩ => ⟨j, by omega, e⟩), fun h => h.imp id (fun ⟨j, hj, e⟩ => ⟨j, ?_, e⟩)⟩, hP.out⟩
                              rcases Nat.lt_or_ge j q with h' | h'
                              · exact h'
                              · have : j = q := by omega
                                subst this
                                exact absurd (hye.out.trans e) hyx'.out
                            case measure => simp [intOf]; omega
                        · have hqk : Hid (q = k) := by show q = k; omega
                          clear hE0 hP0 hr0' hq
                          go_wp2
                          go_roundw
                          case rel =>
                            refine ⟨k + 1, by omega, by go_num, hE.out, r', ?_, hP.out.congr (fun j _ => ?_) (fun j _ => ?_) (fun j _ => ?_) rfl⟩
                            · rw [twice_succ, ← hxe.out, ← hqk.out]
                              have := hr'.out
                              rw [hqk.out] at this ⊢
                              exact this
                            · show step (ST j) x k (F j) = _
                              rw [hFe.out, hxe.out]; rfl
                            · show step (EN j) x k (G j) = _
                              rw [hGe.out, hxe.out]; rfl
                            · show step (SRC j) x k (H j) = _
                              rw [hHe.out, hxe.out]; rfl
                          case measure => simp [intOf]; omega
            · obtain rfl : k = n := by omega
              have hP : Hid (PAt wr (w.heap.size + 1 + 1 + 1 + 1) (fun j => atTo (ST j) ns k) (fun j => atTo (EN j) ns k) (fun j => atTo (SRC j) ns k) r) := hP0
              clear hE0 hP0 hr0
              go_wp2_with (first | refine wpList_load_row rfl 46 _ rfl (w.heap.size + 1 + 1 + 1 + 1) rfl 46 _ (0, 0) _ hP.out Ybad.underlying46 rfl (by kernel_rfl) ?_ | refine wpList_store_row rfl 46 _ _ rfl w.heap.size _ rfl rfl 46 zeroP hE.out.res (by kernel_rfl) rfl (posC_one _ _ _ _) ?_)
              exact bodyPost_ret (v := .agg (posTo ns k r)) (results_cell_row (p := 2) (ty := 46) Ybad.results14 _ _ w.heap.size 46 (posTo ns k r) (0, 0) _ (by rfl) (setRow_heap wr w.heap.size zeroP _ 46 (0, 0) hE.out.res) Ybad.underlying46 rfl (by kernel_rfl)) rfl ⟨r, hr.out, rfl, below_setRow hE.out.below (Nat.le_refl _) _⟩
end Go.Proofs.YbulkbrpsDoor
