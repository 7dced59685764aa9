/-
  record.positionsOf: what it computes is what the law's own reckoning computes.
-/
import Derived.Test.YbulkbrpsDoorARegion
import Derived.Deep.DeepCutAuto
import Derived.Deep.Light
namespace Go.Proofs.YbulkbrpsDoor
open Go.RowKit

set_option maxRecDepth 100000 in
set_option maxHeartbeats 20000000 in
theorem pos_any (ns : List ByteArray) (n : Nat) (hn : n ≤ 1024) (bf : Nat) (w : World) (hl : Hid (ns.length = n)) (hf : Hid (FieldsAt w bf ns)) (hb : bf < w.heap.size)
    (h1 : Hid (∀ j, j < 5 → w.cell? ⟨1, j, none⟩ = some (.string (ST j)))) (h2 : Hid (∀ j, j < 5 → w.cell? ⟨2, j, none⟩ = some (.string (EN j)))) (hg : 2 < w.heap.size) (hsz : Hid (∀ j, (ns.getD j ByteArray.empty).size ≤ maxLen)) :
    Calls Ybad.prog 13 #[.slice (some ⟨bf, 0, none⟩) n n] w fun e w' => ∃ r : Bool, (r = true ↔ twice ns n) ∧ e = .returned (.agg (posTo ns n r)) ∧ Below w.heap.size w w' := by
  go_enter Ybad.func13, Ybad.ntmps13
  go_wp2
  go_quiet (fail)
  go_wp2
  go_loopw [23] (fun i wr => ∃ a : Nat, a ≤ 3 ∧ i = .int .i64 a ∧ PEnv w wr ∧ PAt wr (w.heap.size + 1) (ini 1 a) (ini 2 a) (ini 3 a) false) (fun i _ => 3 - (intOf i).toNat)
  case atStart =>
    exact ⟨0, by omega, rfl, (penv_start w).drewN _, pat2_start w _⟩
  case round =>
    obtain ⟨a, ha, rfl, hE0, hP0⟩ := hrel
    have hE : Hid (PEnv w wr) := hE0
    have i0 : ∀ W : World, (Instr.index 51 (.agg #[.slice (some ⟨w.heap.size + 1, 0, none⟩) 5 5, .slice (some ⟨w.heap.size + 1, 5, none⟩) 5 5, .slice (some ⟨w.heap.size + 1, 10, none⟩) 3 3]) (.int .i64 0)).run Ybad.prog W = .ok (.slice (some ⟨w.heap.size + 1, 0, none⟩) 5 5) W := fun _ => by kernel_rfl
    have i1 : ∀ W : World, (Instr.index 51 (.agg #[.slice (some ⟨w.heap.size + 1, 0, none⟩) 5 5, .slice (some ⟨w.heap.size + 1, 5, none⟩) 5 5, .slice (some ⟨w.heap.size + 1, 10, none⟩) 3 3]) (.int .i64 1)).run Ybad.prog W = .ok (.slice (some ⟨w.heap.size + 1, 5, none⟩) 5 5) W := fun _ => by kernel_rfl
    have i2 : ∀ W : World, (Instr.index 51 (.agg #[.slice (some ⟨w.heap.size + 1, 0, none⟩) 5 5, .slice (some ⟨w.heap.size + 1, 5, none⟩) 5 5, .slice (some ⟨w.heap.size + 1, 10, none⟩) 3 3]) (.int .i64 2)).run Ybad.prog W = .ok (.slice (some ⟨w.heap.size + 1, 10, none⟩) 3 3) W := fun _ => by kernel_rfl
    have hcases : a = 0 ∨ a = 1 ∨ a = 2 ∨ a = 3 := by omega
    rcases hcases with rfl | rfl | rfl | rfl
    · have hP : Hid (PAt wr (w.heap.size + 1) (fun _ => 0) (fun _ => 0) (fun _ => 0) false) := hP0.congr (fun _ _ => rfl) (fun _ _ => rfl) (fun _ _ => rfl) rfl
      clear hE0 hP0
      go_wp2
      clear i0 i1 i2
      go_loopw [28] (fun i wr => ∃ q : Nat, q ≤ 5 ∧ i = .int .i64 q ∧ PEnv w wr ∧ PAt wr (w.heap.size + 1) (mix (fun _ => -1) (fun _ => 0) q) (fun _ => 0) (fun _ => 0) false) (fun i _ => 5 - (intOf i).toNat)
      case atStart => exact ⟨0, by omega, rfl, hE.out, hP.out.congr (fun j _ => (mix_none (fun _ => -1) (fun _ => 0) j).symm) (fun _ _ => rfl) (fun _ _ => rfl) rfl⟩
      case round =>
        clear hE hP
        obtain ⟨q, hq, rfl, hE0, hP0⟩ := hrel
        have hE : Hid (PEnv w wr) := hE0
        have hP : Hid (PAt wr (w.heap.size + 1) (mix (fun _ => -1) (fun _ => 0) q) (fun _ => 0) (fun _ => 0) false) := hP0
        by_cases hlt : q < 5
        · have c1 := hP0.at_f q hlt
          have f1 := hP0.free (q)
          clear hE0 hP0
          go_wp2
          go_roundw
          case rel => exact ⟨q + 1, by omega, by go_num, hE.out.set (by omega) _ _, (hP.out.set_f q hlt (-1)).congr (fun j _ => mix_upd rfl j) (fun _ _ => rfl) (fun _ _ => rfl) rfl⟩
          case measure => simp [intOf]; omega
        · have hqe : Hid (q = 5) := by show q = 5; omega
          clear hE0 hP0
          go_wp2
          go_roundw
          case rel =>
            refine ⟨1, by omega, rfl, hE.out, hP.out.congr (fun j hj => (show mix (fun _ => -1) (fun _ => 0) q j = -1 by rw [hqe.out]; exact mix_all (fun _ => -1) (fun _ => 0) 5 j hj)) (fun _ _ => rfl) (fun _ _ => rfl) rfl⟩
          case measure => simp [intOf]
    · have hP : Hid (PAt wr (w.heap.size + 1) (fun _ => -1) (fun _ => 0) (fun _ => 0) false) := hP0.congr (fun _ _ => rfl) (fun _ _ => rfl) (fun _ _ => rfl) rfl
      clear hE0 hP0
      go_wp2
      clear i0 i1 i2
      go_loopw [28] (fun i wr => ∃ q : Nat, q ≤ 5 ∧ i = .int .i64 q ∧ PEnv w wr ∧ PAt wr (w.heap.size + 1) (fun _ => -1) (mix (fun _ => -1) (fun _ => 0) q) (fun _ => 0) false) (fun i _ => 5 - (intOf i).toNat)
      case atStart => exact ⟨0, by omega, rfl, hE.out, hP.out.congr (fun _ _ => rfl) (fun j _ => (mix_none (fun _ => -1) (fun _ => 0) j).symm) (fun _ _ => rfl) rfl⟩
      case round =>
        clear hE hP
        obtain ⟨q, hq, rfl, hE0, hP0⟩ := hrel
        have hE : Hid (PEnv w wr) := hE0
        have hP : Hid (PAt wr (w.heap.size + 1) (fun _ => -1) (mix (fun _ => -1) (fun _ => 0) q) (fun _ => 0) false) := hP0
        by_cases hlt : q < 5
        · have c1 := hP0.at_g q hlt
          have f1 := hP0.free (5 + q)
          clear hE0 hP0
          go_wp2
          go_roundw
          case rel => exact ⟨q + 1, by omega, by go_num, hE.out.set (by omega) _ _, (hP.out.set_g q hlt (-1)).congr (fun _ _ => rfl) (fun j _ => mix_upd rfl j) (fun _ _ => rfl) rfl⟩
          case measure => simp [intOf]; omega
        · have hqe : Hid (q = 5) := by show q = 5; omega
          clear hE0 hP0
          go_wp2
          go_roundw
          case rel =>
            refine ⟨2, by omega, rfl, hE.out, hP.out.congr (fun _ _ => rfl) (fun j hj => (show mix (fun _ => -1) (fun _ => 0) q j = -1 by rw [hqe.out]; exact mix_all (fun _ => -1) (fun _ => 0) 5 j hj)) (fun _ _ => rfl) rfl⟩
          case measure => simp [intOf]
    · have hP : Hid (PAt wr (w.heap.size + 1) (fun _ => -1) (fun _ => -1) (fun _ => 0) false) := hP0.congr (fun _ _ => rfl) (fun _ _ => rfl) (fun _ _ => rfl) rfl
      clear hE0 hP0
      go_wp2
      clear i0 i1 i2
      go_loopw [28] (fun i wr => ∃ q : Nat, q ≤ 3 ∧ i = .int .i64 q ∧ PEnv w wr ∧ PAt wr (w.heap.size + 1) (fun _ => -1) (fun _ => -1) (mix (fun _ => -1) (fun _ => 0) q) false) (fun i _ => 3 - (intOf i).toNat)
      case atStart => exact ⟨0, by omega, rfl, hE.out, hP.out.congr (fun _ _ => rfl) (fun _ _ => rfl) (fun j _ => (mix_none (fun _ => -1) (fun _ => 0) j).symm) rfl⟩
      case round =>
        clear hE hP
        obtain ⟨q, hq, rfl, hE0, hP0⟩ := hrel
        have hE : Hid (PEnv w wr) := hE0
        have hP : Hid (PAt wr (w.heap.size + 1) (fun _ => -1) (fun _ => -1) (mix (fun _ => -1) (fun _ => 0) q) false) := hP0
        by_cases hlt : q < 3
        · have c1 := hP0.at_h q hlt
          have f1 := hP0.free (10 + q)
          clear hE0 hP0
          go_wp2
          go_roundw
          case rel => exact ⟨q + 1, by omega, by go_num, hE.out.set (by omega) _ _, (hP.out.set_h q hlt (-1)).congr (fun _ _ => rfl) (fun _ _ => rfl) (fun j _ => mix_upd rfl j) rfl⟩
          case measure => simp [intOf]; omega
        · have hqe : Hid (q = 3) := by show q = 3; omega
          clear hE0 hP0
          go_wp2
          go_roundw
          case rel =>
            refine ⟨3, by omega, rfl, hE.out, hP.out.congr (fun _ _ => rfl) (fun _ _ => rfl) (fun j hj => (show mix (fun _ => -1) (fun _ => 0) q j = -1 by rw [hqe.out]; exact mix_all (fun _ => -1) (fun _ => 0) 3 j hj)) rfl⟩
          case measure => simp [intOf]
    · have hP : Hid (PAt wr (w.heap.size + 1) (fun _ => -1) (fun _ => -1) (fun _ => -1) false) := hP0.congr (fun _ _ => rfl) (fun _ _ => rfl) (fun _ _ => rfl) rfl
      clear hE0 hP0 i0 i1 i2
      have hbs : w.heap.size + 1 < wr.heap.size := hP.out.lt
      obtain ⟨bs, hbse⟩ : ∃ bs, Hid (wr.heap.size = bs) := ⟨_, rfl⟩
      rw [hbse.out] at hbs
      go_wp2
      rw [hbse.out]
      go_loopw [38] (fun i wr => ∃ k : Nat, k ≤ n ∧ i = .int .i64 k ∧ PEnv w wr ∧ ∃ r : Bool, (r = true ↔ twice ns k) ∧ PAt wr (w.heap.size + 1) (fun j => atTo (ST j) ns k) (fun j => atTo (EN j) ns k) (fun j => atTo (SRC j) ns k) r ∧ ∃ c : Nat → Nat, SeenAt wr bs c ∧ Marks c ns k r) (fun i _ => n - (intOf i).toNat)
      case atStart =>
        refine ⟨0, Nat.zero_le _, rfl, hE.out.alloc _, false, by simp [twice_zero], (hP.out.congr (fun _ _ => rfl) (fun _ _ => rfl) (fun _ _ => rfl) rfl).alloc _, fun _ => 0, ?_, fun i => by simp, fun _ j hj => by omega⟩
        unfold SeenAt
        rw [← hbse.out]
        exact heap_alloc_new _ _
      case round =>
        clear hE hP hbse
        obtain ⟨k, hk, rfl, hE0, r, hr0, hP0, c, hS0, hM0⟩ := hrel
        have hE : Hid (PEnv w wr) := hE0
        have hr : Hid (r = true ↔ twice ns k) := hr0
        have hS : Hid (SeenAt wr bs c) := hS0
        have hM : Hid (Marks c ns k r) := hM0
        by_cases hlt : k < n
        · obtain ⟨F, hFe⟩ : ∃ F : Nat → Int, Hid (F = fun j => atTo (ST j) ns k) := ⟨_, rfl⟩
          obtain ⟨G, hGe⟩ : ∃ G : Nat → Int, Hid (G = fun j => atTo (EN j) ns k) := ⟨_, rfl⟩
          obtain ⟨H, hHe⟩ : ∃ H : Nat → Int, Hid (H = fun j => atTo (SRC j) ns k) := ⟨_, rfl⟩
          have hP : Hid (PAt wr (w.heap.size + 1) F G H r) := by rw [hFe.out, hGe.out, hHe.out]; exact hP0
          obtain ⟨cx, cx1, cx2⟩ := hf.out.later hE0.below hb k (by rw [hl.out]; exact hlt)
          obtain ⟨x, hxe⟩ : ∃ x, Hid (x = ns.getD k ByteArray.empty) := ⟨_, rfl⟩
          rw [← hxe.out] at cx
          have hbsw : bs < wr.heap.size := (Array.getElem?_eq_some_iff.1 hS0).1
          obtain ⟨fb, hfbe⟩ : ∃ fb, Hid (wr.heap.size = fb) := ⟨_, rfl⟩
          clear hE0 hr0 hP0 hS0 hM0
          go_upto_if 49 with (go_at_call 15; refine (prec_any _ _).mono ?_; rintro e w' ⟨pj, pb, hp1, hp2, rfl, rfl⟩)
          rw [hfbe.out]
          have hE1 : Hid (PEnv w (wr.alloc (.cells #[.string x, .string ⟨#[]⟩, .slice none 0 0] 42))) := hE.out.alloc _
          have hP1 : Hid (PAt (wr.alloc (.cells #[.string x, .string ⟨#[]⟩, .slice none 0 0] 42)) (w.heap.size + 1) F G H r) := hP.out.alloc _
          have hS1 : Hid (SeenAt (wr.alloc (.cells #[.string x, .string ⟨#[]⟩, .slice none 0 0] 42)) bs c) := by
            show _ = _
            rw [Below.heap_alloc _ _ _ hbsw]; exact hS.out
          have hcf : Hid ((wr.alloc (.cells #[.string x, .string ⟨#[]⟩, .slice none 0 0] 42)).cell? ⟨fb, 0, none⟩ = some (.string x)) := by
            show _ = _
            rw [← hfbe.out]; simp
          have hzf : Hid (fb < (wr.alloc (.cells #[.string x, .string ⟨#[]⟩, .slice none 0 0] 42)).heap.size) := by
            show _ < _
            rw [← hfbe.out]; simp
          have hbf : bs < fb := by rw [← hfbe.out]; exact hbsw
          clear hE hP hS hbsw cx cx1 cx2
          go_cut [10, 11] (fun _ _ wx => PEnv w wx ∧ PAt wx (w.heap.size + 1) (fun j => step (ST j) x k (F j)) (fun j => step (EN j) x k (G j)) (fun j => step (SRC j) x k (H j)) r ∧ SeenAt wx bs c ∧ wx.cell? ⟨fb, 0, none⟩ = some (.string x) ∧ fb < wx.heap.size)
          case first =>
            cases pb with
            | true =>
              obtain ⟨hpj, hx⟩ := hp1.out rfl
              have hxe2 : Hid (x = SRC pj) := hx
              have c1 := hP1.out.at_h pj hpj
              have f1 := hP1.out.free (10 + pj)
              have hoF : Hid (∀ j, j < 5 → F j = step (ST j) x k (F j)) := fun j hj => (step_other (by rw [hx]; exact src_st hpj hj) k _).symm
              have hoG : Hid (∀ j, j < 5 → G j = step (EN j) x k (G j)) := fun j hj => (step_other (by rw [hx]; exact src_en hpj hj) k _).symm
              clear hx hp1 hp2
              by_cases hv : H pj < 0
              · have hoH : Hid (∀ j, j < 3 → upd H pj k j = step (SRC j) x k (H j)) := fun j hj => by
                  unfold upd
                  by_cases e : j = pj
                  · subst e; rw [if_pos rfl, step_hit hxe2.out hv]
                  · rw [if_neg e, step_other (fun h => e (src_src hj hpj (h.symm.trans hxe2.out)))]
                obtain ⟨v1, hv1⟩ : ∃ v, Hid (v = H pj) := ⟨_, rfl⟩
                rw [← hv1.out] at c1 hv
                go_wp2
                go_meet
                exact ⟨hE1.out.set (by omega) _ _, (hP1.out.set_h pj hpj k).congr hoF.out hoG.out hoH.out rfl, seen_set hS1.out (by simp; omega) _, cell_set hcf.out (by simp; omega) _, size_set hzf.out _ _⟩
              · have hoH : Hid (∀ j, j < 3 → H j = step (SRC j) x k (H j)) := fun j hj => by
                  by_cases e : j = pj
                  · subst e; rw [step_kept hv]
                  · rw [step_other (fun h => e (src_src hj hpj (h.symm.trans hxe2.out)))]
                obtain ⟨v1, hv1⟩ : ∃ v, Hid (v = H pj) := ⟨_, rfl⟩
                rw [← hv1.out] at c1 hv
                go_wp2
                go_meet
                exact ⟨hE1.out, hP1.out.congr hoF.out hoG.out hoH.out rfl, hS1.out, hcf.out, hzf.out⟩
            | false =>
              have hoH : Hid (∀ j, j < 3 → H j = step (SRC j) x k (H j)) := fun j hj => (step_other (hp2.out rfl j hj) k _).symm
              clear hp1 hp2
              go_wp2
              go_loopw [60] (fun i wr => ∃ q : Nat, q ≤ 5 ∧ i = .int .i64 q ∧ PEnv w wr ∧ PAt wr (w.heap.size + 1) (mix (fun j => step (ST j) x k (F j)) F q) (mix (fun j => step (EN j) x k (G j)) G q) (fun j => step (SRC j) x k (H j)) r ∧ SeenAt wr bs c ∧ wr.cell? ⟨fb, 0, none⟩ = some (.string x) ∧ fb < wr.heap.size) (fun i _ => 5 - (intOf i).toNat)
              case atStart =>
                exact ⟨0, by omega, rfl, hE1.out, hP1.out.congr (fun j _ => (mix_none _ F j).symm) (fun j _ => (mix_none _ G j).symm) hoH.out rfl, hS1.out, hcf.out, hzf.out⟩
              case round =>
                clear hE1 hP1 hS1 hcf hzf hoH hfbe
                obtain ⟨q, hq, rfl, hE0, hP0, hS0, hcf, hzf0⟩ := hrel
                have hE : Hid (PEnv w wr) := hE0
                have hP : Hid (PAt wr (w.heap.size + 1) (mix (fun j => step (ST j) x k (F j)) F q) (mix (fun j => step (EN j) x k (G j)) G q) (fun j => step (SRC j) x k (H j)) r) := hP0
                have hS : Hid (SeenAt wr bs c) := hS0
                have hzf2 : Hid (fb < wr.heap.size) := hzf0
                have cf : Hid (wr.cell? ⟨fb, 0, none⟩ = some (.string x)) := hcf
                clear hS0 hzf0
                by_cases hlt5 : q < 5
                · have c1 := hP0.at_f q hlt5
                  rw [mix_at] at c1
                  have f1 := hP0.free q
                  have cs1 := hE0.below.cell (p := ⟨1, q, none⟩) (by simp; omega)
                  rw [h1.out q hlt5] at cs1
                  by_cases hxs : x = ST q
                  · by_cases hv : F q < 0
                    · have hst1 : Hid (step (ST q) x k (F q) = k) := step_hit hxs hv
                      have hne := eqS hxs
                      have hdv : decide (F q < 0) = true := by simpa using hv
                      have c2 : ∀ m, ((wr.drewN m).setCell ⟨w.heap.size + 1, q, none⟩ (.int .i32 k)).cell? ⟨w.heap.size + 1, 5 + q, none⟩ = some (.int .i32 (G q)) := fun _ => by
                        have h := (hP0.set_f q hlt5 k).at_g q hlt5
                        rw [mix_at] at h
                        exact h
                      have f2 : ∀ m, ((wr.drewN m).setCell ⟨w.heap.size + 1, q, none⟩ (.int .i32 k)).frozen? ⟨w.heap.size + 1, 5 + q, none⟩ = false := fun _ => (hP0.set_f q hlt5 k).free (5 + q)
                      have ce2 : ∀ m, ((wr.drewN m).setCell ⟨w.heap.size + 1, q, none⟩ (.int .i32 k)).cell? ⟨2, q, none⟩ = some (.string (EN q)) := fun _ => by
                        have h := hE0.below.setCell (p := ⟨w.heap.size + 1, q, none⟩) (by simp) (.int .i32 k) |>.cell (p := ⟨2, q, none⟩) (by simp; omega)
                        rw [h2.out q hlt5] at h
                        exact h
                      have cf2 : ∀ m, ((wr.drewN m).setCell ⟨w.heap.size + 1, q, none⟩ (.int .i32 k)).cell? ⟨fb, 0, none⟩ = some (.string x) := fun _ => cell_set cf.out (a := ⟨w.heap.size + 1, q, none⟩) (by simp; omega) _
                      clear hxs hE0 hP0
                      obtain ⟨s1, hs1⟩ : ∃ s, Hid (s = ST q) := ⟨_, rfl⟩
                      rw [← hs1.out] at cs1 hne
                      obtain ⟨v1, hv1⟩ : ∃ v, Hid (v = F q) := ⟨_, rfl⟩
                      rw [← hv1.out] at c1 hv hdv
                      by_cases hxs2 : x = EN q
                      · by_cases hv2 : G q < 0
                        · have hst2 : Hid (step (EN q) x k (G q) = k) := step_hit hxs2 hv2
                          have hne2 := eqS hxs2
                          have hdv2 : decide (G q < 0) = true := by simpa using hv2
                          clear hxs2
                          obtain ⟨s2, hs2⟩ : ∃ s, Hid (s = EN q) := ⟨_, rfl⟩
                          rw [← hs2.out] at ce2 hne2
                          obtain ⟨v2, hv2e⟩ : ∃ v, Hid (v = G q) := ⟨_, rfl⟩
                          rw [← hv2e.out] at c2 hv2 hdv2
                          go_wp2
                          go_quiet (fail)
                          go_wp2
                          go_quiet (fail)
                          go_wp2
                          go_roundw
                          case rel => exact ⟨q + 1, by omega, by go_num, (PEnv.set (PEnv.drewN (PEnv.set (PEnv.drewN hE.out _) (b := w.heap.size + 1) (by omega) q (.int .i32 k)) _) (b := w.heap.size + 1) (by omega) (5 + q) (.int .i32 k)), PAt.congr (PAt.set_g (PAt.drewN (PAt.set_f (PAt.drewN hP.out _) q hlt5 k) _) q hlt5 k) (fun j _ => mix_upd hst1.out j) (fun j _ => mix_upd hst2.out j) (fun _ _ => rfl) rfl, (seen_set (seen_drewN (seen_set (seen_drewN hS.out _) (a := ⟨w.heap.size + 1, q, none⟩) (by simp; omega) (.int .i32 k)) _) (a := ⟨w.heap.size + 1, (5 + q), none⟩) (by simp; omega) (.int .i32 k)), (cell_set (cell_drewN (cell_set (cell_drewN cf.out _) (a := ⟨w.heap.size + 1, q, none⟩) (by simp; omega) (.int .i32 k)) _) (a := ⟨w.heap.size + 1, (5 + q), none⟩) (by simp; omega) (.int .i32 k)), (size_set (size_drewN (size_set (size_drewN hzf2.out _) ⟨w.heap.size + 1, q, none⟩ (.int .i32 k)) _) ⟨w.heap.size + 1, (5 + q), none⟩ (.int .i32 k))⟩
                          case measure => simp [intOf]; omega
                        · have hst2 : Hid (step (EN q) x k (G q) = G q) := step_kept hv2
                          have hne2 := eqS hxs2
                          have hdv2 : decide (G q < 0) = false := by simpa using hv2
                          clear hxs2
                          obtain ⟨s2, hs2⟩ : ∃ s, Hid (s = EN q) := ⟨_, rfl⟩
                          rw [← hs2.out] at ce2 hne2
                          obtain ⟨v2, hv2e⟩ : ∃ v, Hid (v = G q) := ⟨_, rfl⟩
                          rw [← hv2e.out] at c2 hv2 hdv2
                          go_wp2
                          go_quiet (fail)
                          go_wp2
                          go_quiet (fail)
                          go_wp2
                          go_roundw
                          case rel => exact ⟨q + 1, by omega, by go_num, (PEnv.drewN (PEnv.set (PEnv.drewN hE.out _) (b := w.heap.size + 1) (by omega) q (.int .i32 k)) _), PAt.congr (PAt.drewN (PAt.set_f (PAt.drewN hP.out _) q hlt5 k) _) (fun j _ => mix_upd hst1.out j) (fun j _ => mix_kept hst2.out j) (fun _ _ => rfl) rfl, (seen_drewN (seen_set (seen_drewN hS.out _) (a := ⟨w.heap.size + 1, q, none⟩) (by simp; omega) (.int .i32 k)) _), (cell_drewN (cell_set (cell_drewN cf.out _) (a := ⟨w.heap.size + 1, q, none⟩) (by simp; omega) (.int .i32 k)) _), (size_drewN (size_set (size_drewN hzf2.out _) ⟨w.heap.size + 1, q, none⟩ (.int .i32 k)) _)⟩
                          case measure => simp [intOf]; omega
                      · have hst2 : Hid (step (EN q) x k (G q) = G q) := step_other hxs2 k _
                        have hne2 := neS hxs2
                        clear hxs2
                        obtain ⟨s2, hs2⟩ : ∃ s, Hid (s = EN q) := ⟨_, rfl⟩
                        rw [← hs2.out] at ce2 hne2
                        go_wp2
                        go_quiet (fail)
                        go_wp2
                        go_quiet (fail)
                        go_wp2
                        go_roundw
                        case rel => exact ⟨q + 1, by omega, by go_num, (PEnv.drewN (PEnv.set (PEnv.drewN hE.out _) (b := w.heap.size + 1) (by omega) q (.int .i32 k)) _), PAt.congr (PAt.drewN (PAt.set_f (PAt.drewN hP.out _) q hlt5 k) _) (fun j _ => mix_upd hst1.out j) (fun j _ => mix_kept hst2.out j) (fun _ _ => rfl) rfl, (seen_drewN (seen_set (seen_drewN hS.out _) (a := ⟨w.heap.size + 1, q, none⟩) (by simp; omega) (.int .i32 k)) _), (cell_drewN (cell_set (cell_drewN cf.out _) (a := ⟨w.heap.size + 1, q, none⟩) (by simp; omega) (.int .i32 k)) _), (size_drewN (size_set (size_drewN hzf2.out _) ⟨w.heap.size + 1, q, none⟩ (.int .i32 k)) _)⟩
                        case measure => simp [intOf]; omega
                    · have hst1 : Hid (step (ST q) x k (F q) = F q) := step_kept hv
                      have hne := eqS hxs
                      have hdv : decide (F q < 0) = false := by simpa using hv
                      have c2 := hP0.at_g q hlt5
                      rw [mix_at] at c2
                      have f2 := hP0.free (5 + q)
                      have ce2 := hE0.below.cell (p := ⟨2, q, none⟩) (by simp; omega)
                      rw [h2.out q hlt5] at ce2
                      have cf2 := cf.out
                      clear hxs hE0 hP0
                      obtain ⟨s1, hs1⟩ : ∃ s, Hid (s = ST q) := ⟨_, rfl⟩
                      rw [← hs1.out] at cs1 hne
                      obtain ⟨v1, hv1⟩ : ∃ v, Hid (v = F q) := ⟨_, rfl⟩
                      rw [← hv1.out] at c1 hv hdv
                      by_cases hxs2 : x = EN q
                      · by_cases hv2 : G q < 0
                        · have hst2 : Hid (step (EN q) x k (G q) = k) := step_hit hxs2 hv2
                          have hne2 := eqS hxs2
                          have hdv2 : decide (G q < 0) = true := by simpa using hv2
                          clear hxs2
                          obtain ⟨s2, hs2⟩ : ∃ s, Hid (s = EN q) := ⟨_, rfl⟩
                          rw [← hs2.out] at ce2 hne2
                          obtain ⟨v2, hv2e⟩ : ∃ v, Hid (v = G q) := ⟨_, rfl⟩
                          rw [← hv2e.out] at c2 hv2 hdv2
                          go_wp2
                          go_quiet (fail)
                          go_wp2
                          go_quiet (fail)
                          go_wp2
                          go_roundw
                          case rel => exact ⟨q + 1, by omega, by go_num, (PEnv.set (PEnv.drewN hE.out _) (b := w.heap.size + 1) (by omega) (5 + q) (.int .i32 k)), PAt.congr (PAt.set_g (PAt.drewN hP.out _) q hlt5 k) (fun j _ => mix_kept hst1.out j) (fun j _ => mix_upd hst2.out j) (fun _ _ => rfl) rfl, (seen_set (seen_drewN hS.out _) (a := ⟨w.heap.size + 1, (5 + q), none⟩) (by simp; omega) (.int .i32 k)), (cell_set (cell_drewN cf.out _) (a := ⟨w.heap.size + 1, (5 + q), none⟩) (by simp; omega) (.int .i32 k)), (size_set (size_drewN hzf2.out _) ⟨w.heap.size + 1, (5 + q), none⟩ (.int .i32 k))⟩
                          case measure => simp [intOf]; omega
                        · have hst2 : Hid (step (EN q) x k (G q) = G q) := step_kept hv2
                          have hne2 := eqS hxs2
                          have hdv2 : decide (G q < 0) = false := by simpa using hv2
                          clear hxs2
                          obtain ⟨s2, hs2⟩ : ∃ s, Hid (s = EN q) := ⟨_, rfl⟩
                          rw [← hs2.out] at ce2 hne2
                          obtain ⟨v2, hv2e⟩ : ∃ v, Hid (v = G q) := ⟨_, rfl⟩
                          rw [← hv2e.out] at c2 hv2 hdv2
                          go_wp2
                          go_quiet (fail)
                          go_wp2
                          go_quiet (fail)
                          go_wp2
                          go_roundw
                          case rel => exact ⟨q + 1, by omega, by go_num, (PEnv.drewN hE.out _), PAt.congr (PAt.drewN hP.out _) (fun j _ => mix_kept hst1.out j) (fun j _ => mix_kept hst2.out j) (fun _ _ => rfl) rfl, (seen_drewN hS.out _), (cell_drewN cf.out _), (size_drewN hzf2.out _)⟩
                          case measure => simp [intOf]; omega
                      · have hst2 : Hid (step (EN q) x k (G q) = G q) := step_other hxs2 k _
                        have hne2 := neS hxs2
                        clear hxs2
                        obtain ⟨s2, hs2⟩ : ∃ s, Hid (s = EN q) := ⟨_, rfl⟩
                        rw [← hs2.out] at ce2 hne2
                        go_wp2
                        go_quiet (fail)
                        go_wp2
                        go_quiet (fail)
                        go_wp2
                        go_roundw
                        case rel => exact ⟨q + 1, by omega, by go_num, (PEnv.drewN hE.out _), PAt.congr (PAt.drewN hP.out _) (fun j _ => mix_kept hst1.out j) (fun j _ => mix_kept hst2.out j) (fun _ _ => rfl) rfl, (seen_drewN hS.out _), (cell_drewN cf.out _), (size_drewN hzf2.out _)⟩
                        case measure => simp [intOf]; omega
                  · have hst1 : Hid (step (ST q) x k (F q) = F q) := step_other hxs k _
                    have hne := neS hxs
                    have c2 := hP0.at_g q hlt5
                    rw [mix_at] at c2
                    have f2 := hP0.free (5 + q)
                    have ce2 := hE0.below.cell (p := ⟨2, q, none⟩) (by simp; omega)
                    rw [h2.out q hlt5] at ce2
                    have cf2 := cf.out
                    clear hxs hE0 hP0
                    obtain ⟨s1, hs1⟩ : ∃ s, Hid (s = ST q) := ⟨_, rfl⟩
                    rw [← hs1.out] at cs1 hne
                    by_cases hxs2 : x = EN q
                    · by_cases hv2 : G q < 0
                      · have hst2 : Hid (step (EN q) x k (G q) = k) := step_hit hxs2 hv2
                        have hne2 := eqS hxs2
                        have hdv2 : decide (G q < 0) = true := by simpa using hv2
                        clear hxs2
                        obtain ⟨s2, hs2⟩ : ∃ s, Hid (s = EN q) := ⟨_, rfl⟩
                        rw [← hs2.out] at ce2 hne2
                        obtain ⟨v2, hv2e⟩ : ∃ v, Hid (v = G q) := ⟨_, rfl⟩
                        rw [← hv2e.out] at c2 hv2 hdv2
                        go_wp2
                        go_quiet (fail)
                        go_wp2
                        go_quiet (fail)
                        go_wp2
                        go_roundw
                        case rel => exact ⟨q + 1, by omega, by go_num, (PEnv.set (PEnv.drewN hE.out _) (b := w.heap.size + 1) (by omega) (5 + q) (.int .i32 k)), PAt.congr (PAt.set_g (PAt.drewN hP.out _) q hlt5 k) (fun j _ => mix_kept hst1.out j) (fun j _ => mix_upd hst2.out j) (fun _ _ => rfl) rfl, (seen_set (seen_drewN hS.out _) (a := ⟨w.heap.size + 1, (5 + q), none⟩) (by simp; omega) (.int .i32 k)), (cell_set (cell_drewN cf.out _) (a := ⟨w.heap.size + 1, (5 + q), none⟩) (by simp; omega) (.int .i32 k)), (size_set (size_drewN hzf2.out _) ⟨w.heap.size + 1, (5 + q), none⟩ (.int .i32 k))⟩
                        case measure => simp [intOf]; omega
                      · have hst2 : Hid (step (EN q) x k (G q) = G q) := step_kept hv2
                        have hne2 := eqS hxs2
                        have hdv2 : decide (G q < 0) = false := by simpa using hv2
                        clear hxs2
                        obtain ⟨s2, hs2⟩ : ∃ s, Hid (s = EN q) := ⟨_, rfl⟩
                        rw [← hs2.out] at ce2 hne2
                        obtain ⟨v2, hv2e⟩ : ∃ v, Hid (v = G q) := ⟨_, rfl⟩
                        rw [← hv2e.out] at c2 hv2 hdv2
                        go_wp2
                        go_quiet (fail)
                        go_wp2
                        go_quiet (fail)
                        go_wp2
                        go_roundw
                        case rel => exact ⟨q + 1, by omega, by go_num, (PEnv.drewN hE.out _), PAt.congr (PAt.drewN hP.out _) (fun j _ => mix_kept hst1.out j) (fun j _ => mix_kept hst2.out j) (fun _ _ => rfl) rfl, (seen_drewN hS.out _), (cell_drewN cf.out _), (size_drewN hzf2.out _)⟩
                        case measure => simp [intOf]; omega
                    · have hst2 : Hid (step (EN q) x k (G q) = G q) := step_other hxs2 k _
                      have hne2 := neS hxs2
                      clear hxs2
                      obtain ⟨s2, hs2⟩ : ∃ s, Hid (s = EN q) := ⟨_, rfl⟩
                      rw [← hs2.out] at ce2 hne2
                      go_wp2
                      go_quiet (fail)
                      go_wp2
                      go_quiet (fail)
                      go_wp2
                      go_roundw
                      case rel => exact ⟨q + 1, by omega, by go_num, (PEnv.drewN hE.out _), PAt.congr (PAt.drewN hP.out _) (fun j _ => mix_kept hst1.out j) (fun j _ => mix_kept hst2.out j) (fun _ _ => rfl) rfl, (seen_drewN hS.out _), (cell_drewN cf.out _), (size_drewN hzf2.out _)⟩
                      case measure => simp [intOf]; omega
                · have hP5 : Hid (PAt wr (w.heap.size + 1) (fun j => step (ST j) x k (F j)) (fun j => step (EN j) x k (G j)) (fun j => step (SRC j) x k (H j)) r) := by
                    have : q = 5 := by omega
                    subst this
                    exact hP0.congr (fun j hj => mix_all _ _ 5 j hj) (fun j hj => mix_all _ _ 5 j hj) (fun _ _ => rfl) rfl
                  clear hE0 hP0 hP hcf
                  go_wp2
                  go_meet
                  exact ⟨hE.out, hP5.out, hS.out, cf.out, hzf2.out⟩
          case rest =>
            obtain ⟨hE2, hP2, hS2, hc2, hz2⟩ := hcut
            clear hE1 hP1 hS1 hcf hzf hp1 hp2 hfbe
            have hE : Hid (PEnv w wc) := hE2
            have hP : Hid (PAt wc (w.heap.size + 1) (fun j => step (ST j) x k (F j)) (fun j => step (EN j) x k (G j)) (fun j => step (SRC j) x k (H j)) r) := hP2
            have hS : Hid (SeenAt wc bs c) := hS2
            have c13 := hP2.at_r
            have f13 := hP2.free 13
            have hTo : Hid (∀ (wz : World) (r' : Bool), PAt wz (w.heap.size + 1) (fun j => step (ST j) x k (F j)) (fun j => step (EN j) x k (G j)) (fun j => step (SRC j) x k (H j)) r' → PAt wz (w.heap.size + 1) (fun j => atTo (ST j) ns (k + 1)) (fun j => atTo (EN j) ns (k + 1)) (fun j => atTo (SRC j) ns (k + 1)) r') := fun wz r' h => by
              rw [hFe.out, hGe.out, hHe.out, hxe.out] at h
              exact h
            clear hE2 hP2 hS2
            cases r with
            | true =>
              go_wp2
              go_roundw
              case rel =>
                refine ⟨k + 1, by omega, by go_num, hE.out, true, ?_, hTo.out _ _ hP.out, c, hS.out, hM.out.1, fun h => by cases h⟩
                exact ⟨fun _ => (twice_succ ns k).2 (Or.inl (hr.out.1 rfl)), fun _ => rfl⟩
              case measure => simp [intOf]; omega
            | false =>
              obtain ⟨m, hme⟩ : ∃ m, Hid (m = mark x) := ⟨_, rfl⟩
              have hm256 : m < 256 := by rw [hme.out]; exact mark_lt x
              have hsx : Hid (x.size ≤ maxLen) := by rw [hxe.out]; exact hsz.out k
              go_wp2_with (go_at_call 16; refine (mark_any _ _ hsx.out).mono ?_; rintro e w' ⟨rfl, nm, rfl⟩; rw [← hme.out])
              have hw4 : m / 64 < 4 := by omega
              rw [wrap_pow (m % 64) (by omega), show ((m : Int) / 64) = ((m / 64 : Nat) : Int) from by omega]
              obtain ⟨bv, hbv⟩ : ∃ bv : Nat, Hid (2 ^ (m % 64) = bv) := ⟨_, rfl⟩
              rw [hbv.out]
              obtain ⟨q, hqe⟩ : ∃ q : Nat, Hid (m / 64 = q) := ⟨_, rfl⟩
              rw [hqe.out] at hw4 ⊢
              obtain ⟨cw, hcw⟩ : ∃ cw : Nat, Hid (cw = c q) := ⟨_, rfl⟩
              have csw := hS.out.at q hw4
              rw [← hcw.out] at csw
              have hcl : Hid (cw < 2 ^ 64) := by rw [hcw.out]; exact hM.out.1 _
              have hbl : Hid (bv < 2 ^ 64) := by rw [← hbv.out]; exact Nat.pow_lt_pow_right (by decide) (by omega)
              have hback : Hid (∀ W w2 : World, W.heap = wc.heap ∧ W.os = wc.os ∧ W.tape = wc.tape ∧ W.output = wc.output → Below W.heap.size W w2 → Mid w w2 bs fb q cw x c F G H k) := fun W w2 ⟨e1, e2, e3, e4⟩ hb2 => by
                have hlt1 := hE.out.lt
                have hb3 : Below wc.heap.size wc w2 := ⟨hb2.os.trans e2, hb2.tape.trans e3, hb2.output.trans e4, by have := hb2.size; rw [e1] at this; exact this, fun i hi => by have := hb2.block i (by rw [e1]; exact hi); rw [e1] at this; exact this⟩
                refine ⟨⟨?_, hE.out.below.trans (hb3.mono (Nat.le_of_lt hlt1))⟩, ?_, ?_, ?_, ?_, ?_⟩
                · rw [hb3.block _ hlt1]; exact hE.out.res
                · unfold PAt; rw [hb3.block _ hP.out.lt]; exact hP.out
                · unfold SeenAt; rw [hb3.block _ (by omega)]; exact hS.out
                · have := hb3.size; omega
                · rw [hb3.cell (p := ⟨fb, 0, none⟩) hz2]; exact hc2
                · rw [hb3.cell (p := ⟨bs, q, none⟩) (by show bs < _; omega)]; exact csw
              have hff : Hid (∀ W : World, W.heap = wc.heap → FieldsAt W bf ns) := fun W e => (hf.out.later hE.out.below hb).of_heap e
              have hbw : Hid (bf < wc.heap.size) := by have := hE.out.lt; show _ < _; omega
              obtain ⟨B, jj, hB, hyes, hiff⟩ : ∃ (B : Bool) (jj : Int), Hid ((((cw &&& bv : Nat) : Int) != 0) = B) ∧ Hid (B = true → Calls Ybad.prog 17 #[.slice (some ⟨bf, 0, none⟩) k n, .string x] (wc.drewN nm).drew fun e w' => e = .returned (.int .i64 jj) ∧ Mid w w' bs fb q cw x c F G H k) ∧ Hid ((B && decide (0 ≤ jj)) = true ↔ among ns k x) := by
                have hbit : among ns k x → (cw &&& bv) ≠ 0 := fun ⟨j, hj, e⟩ => by
                  have h := hM.out.2 rfl j hj
                  rw [e, ← hme.out, hqe.out, ← hcw.out] at h
                  rw [← hbv.out]
                  exact and_pow_ne h
                by_cases hz : (cw &&& bv) = 0
                · refine ⟨false, 0, ?_, fun h => absurd h (by decide), fun h => absurd h (by decide), fun h => absurd hz (hbit h)⟩
                  show _ = _
                  rw [hz]; rfl
                · have hz' : (((cw &&& bv : Nat) : Int) != 0) = true := by
                    rw [bne_iff_ne]
                    omega
                  by_cases ham : among ns k x
                  · obtain ⟨j, hj, hjx, hjno⟩ := first_among ham
                    refine ⟨true, j, hz', fun _ => ?_, ?_⟩
                    · exact (fidx_hit ns bf k n x ((wc.drewN nm).drew) (by rw [hl.out]; omega) (by rw [hl.out]; exact hn) (hff.out ((wc.drewN nm).drew) rfl) hbw.out j hj hjx hjno).mono fun e w' ⟨he, hb2⟩ => ⟨he, hback.out ((wc.drewN nm).drew) w' ⟨rfl, rfl, rfl, rfl⟩ hb2⟩
                    · exact ⟨fun _ => ham, fun _ => by simp⟩
                  · refine ⟨true, -1, hz', fun _ => ?_, ?_⟩
                    · exact (fidx_miss ns bf k n x ((wc.drewN nm).drew) (by rw [hl.out]; omega) (by rw [hl.out]; exact hn) (hff.out ((wc.drewN nm).drew) rfl) hbw.out (fun i hi e => ham ⟨i, hi, e⟩)).mono fun e w' ⟨he, hb2⟩ => ⟨he, hback.out ((wc.drewN nm).drew) w' ⟨rfl, rfl, rfl, rfl⟩ hb2⟩
                    · exact ⟨fun h => absurd h (by decide), fun h => absurd h ham⟩
              obtain ⟨res, hres⟩ : ∃ res, Hid ((B && decide (0 ≤ jj)) = res) := ⟨_, rfl⟩
              refine region30 (by kernel_rfl) (by kernel_rfl) (by kernel_rfl) (by kernel_rfl) (by kernel_rfl) (by kernel_rfl) (by kernel_rfl) (by kernel_rfl) (by kernel_rfl) (by kernel_rfl) (by kernel_rfl) (by kernel_rfl) (by kernel_rfl) (by kernel_rfl) (by kernel_rfl) (by kernel_rfl) (by kernel_rfl) (by kernel_rfl) (by kernel_rfl) (by kernel_rfl) bf n k bs q fb (w.heap.size + 1) cw bv (cw &&& bv) B jj x (fun w2 => Mid w w2 bs fb q cw x c F G H k) res hw4 (by omega) rfl rfl rfl rfl rfl rfl rfl rfl rfl ⟨csw, hc2⟩ (fun w2 h => ⟨h.seenc, h.name⟩) (fun w2 h => ⟨⟨_, h.pat.at_r⟩, h.pat.free 13⟩) (bits_and_u64_nat cw bv hcl.out hbl.out) hB.out hyes.out (fun _ => hback.out ((wc.drewN nm).drew) _ ⟨rfl, rfl, rfl, rfl⟩ (Below.refl _ _)) hres.out ?_
              intro v0 v1 v2 v3 v4 v5 v6 v7 v8 v9 v10 v11 v12 v13 v14 v15 w3 hM3
              have hE3 : Hid (PEnv w (w3.setCell ⟨w.heap.size + 1, 13, none⟩ (.bool res))) := hM3.env.set (by omega) _ _
              have hP3 : Hid (PAt (w3.setCell ⟨w.heap.size + 1, 13, none⟩ (.bool res)) (w.heap.size + 1) (fun j => step (ST j) x k (F j)) (fun j => step (EN j) x k (G j)) (fun j => step (SRC j) x k (H j)) res) := hM3.pat.set_r res
              have hS3 : Hid (SeenAt (w3.setCell ⟨w.heap.size + 1, 13, none⟩ (.bool res)) bs c) := seen_set hM3.seen (by simp; omega) _
              clear hM3 hE hP hS hback hyes hff hbw hc2 hz2 csw c13 f13
              generalize (w3.setCell ⟨w.heap.size + 1, 13, none⟩ (.bool res)) = wz at *
              have csz := hS3.out.at q hw4
              have fsz := hS3.out.free q
              rw [← hcw.out] at csz
              obtain ⟨ov, hov⟩ : ∃ ov : Nat, Hid (cw ||| bv = ov) := ⟨_, rfl⟩
              have hor : bits BinOp.or IntKind.u64 ↑cw ↑bv = (ov : Int) := by rw [bits_or_u64_nat cw bv hcl.out hbl.out, hov.out]
              simp only [putFrom, Act.put, List.setIfInBounds_toArray, List.set_cons_succ, List.set_cons_zero]
              go_wp2
              go_roundw
              case rel =>
                refine ⟨k + 1, by omega, by go_num, hE3.out.set (by omega) _ _, res, ?_, hTo.out _ _ (hP3.out.other (by simp; omega) _), updN c q ov, hS3.out.set q hw4 ov, marks_step hM.out hxe.out hme.out hqe.out hcw.out hbv.out hbl.out hov.out⟩
                rw [twice_succ, ← hxe.out, ← hres.out]
                exact hiff.out.trans ⟨Or.inr, fun h => h.elim (fun h => absurd (hr.out.2 h) (by decide)) id⟩
              case measure => simp [intOf]; omega
        · obtain rfl : k = n := by omega
          have hP : Hid (PAt wr (w.heap.size + 1) (fun j => atTo (ST j) ns k) (fun j => atTo (EN j) ns k) (fun j => atTo (SRC j) ns k) r) := hP0
          clear hE0 hP0 hr0 hS0 hM0 hS hM
          go_wp2_with (first | refine wpList_load_row rfl 46 _ rfl (w.heap.size + 1) rfl 46 _ (0, 0) _ hP.out Ybad.underlying46 rfl (by kernel_rfl) ?_ | refine wpList_store_row rfl 46 _ _ rfl w.heap.size _ rfl rfl 46 zeroP hE.out.res (by kernel_rfl) rfl (posC_one _ _ _ _) ?_)
          exact bodyPost_ret (v := .agg (posTo ns k r)) (results_cell_row (p := 2) (ty := 46) Ybad.results13 _ _ w.heap.size 46 (posTo ns k r) (0, 0) _ (by rfl) (setRow_heap wr w.heap.size zeroP _ 46 (0, 0) hE.out.res) Ybad.underlying46 rfl (by kernel_rfl)) rfl ⟨r, hr.out, rfl, below_setRow hE.out.below (Nat.le_refl _) _⟩
end Go.Proofs.YbulkbrpsDoor
