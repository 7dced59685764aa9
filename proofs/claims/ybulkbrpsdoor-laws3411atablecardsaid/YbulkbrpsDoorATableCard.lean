/-
  'record.LawS3411ATable': THE ROW PROVED, AND ITS TIED CARD.
-/
import Derived.Test.YbulkbrpsDoorATab
import Derived.Test.YbulkbrpsDoorALaid
import Derived.Test.YbulkbrpsDoorTie
import Derived.Test.YbulkbrpsDoorCards
import Derived.Test.YbulkbrpsDoorARawCard
namespace Go.Proofs.YbulkbrpsDoor
open Go.ChangeShapes Go.WideShapes Go.ChangeAt Go.RowKit

theorem cells5 : Ybad.prog.cellsOf 5 = 1 := by kernel_rfl
set_option maxRecDepth 100000 in
theorem atable_lifted (os : Os) (started : os.Started) (H : Type) (enc : TypeId × Value → H) :
    ReturnsInHanded {} Ybad.checked os 3 .any (fun w args => (Rows.lawS3411ATableSpec.pre enc Ybad.prog Ybad.f3 [] false w args ∧ laidMetH Ybad.prog namesLaid w) ∧ sizedMet enc Ybad.prog Ybad.f3 (OpenSpec.ofChange Rows.lawS3411ATableSpec) false w args)
      (Rows.lawS3411ATableSpec.post enc Ybad.prog Ybad.f3 false true false false) := by
  refine returnsInHanded_of_change_and (C := Ybad.checked) (X := fun w _ => laidMetH Ybad.prog namesLaid w) (fun _ _ _ hh h => h.of_heap hh) own started (by kernel_rfl) Ybad.func3
    (ChangeSpec.witness_shaped (enc := enc) (C := Ybad.checked) (os := os) (X := fun w _ => laidMetH Ybad.prog namesLaid w) false (World.doorLaid Ybad.prog 400 os) #[.slice none 0 0, .slice none 0 0] 8 rfl (World.shaped_of_RefB (by kernel_rfl) (by kernel_rfl)) (by kernel_rfl) (by kernel_rfl) (by kernel_rfl) (names_met os _)) ?_
  intro W base args ds gs before hval0 hW _ _ hL _
  have hval : ∀ (j : Nat) t v, Ybad.f3.params[j]? = some t → args[j]? = some v → Value.okWide Ybad.prog W .any base t v := hval0
  have hW' := hW
  obtain ⟨p, q, hA0, hV, rfl, hfz, hnd⟩ := hW
  have hA : DataW.TrodAll enc Ybad.prog W 0 (fun _ => true) true Ybad.f3.params.toList args.toList ds p := hA0
  obtain ⟨g0, t0, cs0, f0, d1, p0, g1, t1, cs1, f1, d2, p1, rfl, _⟩ := trodVars_two hV
  rw [Ybad.params3] at hA hval
  obtain ⟨v0, v1, d0, d0', q0, q1, rfl, rfl, rfl, h0, h1⟩ := trodAll_two hA
  obtain ⟨a0, len, cap, rfl⟩ := okWide_slice Ybad.underlying22 (hval 0 22 v0 rfl rfl)
  obtain ⟨a1, m, rcap, rfl⟩ := okWide_slice Ybad.underlying23 (hval 1 23 v1 rfl rfl)
  obtain ⟨hS, hE, hg⟩ := of_names hL
  have hcalls : Calls Ybad.prog 3 #[.slice a0 len cap, .slice a1 m rcap] W fun e w' => e = .returned (.bool true) ∧ Below W.heap.size W w' := by
    obtain ⟨fuel0, hf0⟩ := h0
    obtain ⟨fuel1, hf1⟩ := h1
    have hsel : Hid (0 < len → ∃ ad, a0 = some ad ∧ ∀ j, j < len → ∃ b : Nat, b < 256 ∧ W.cell? (ad.add j) = some (.int .u8 b)) := by
      rcases open_ints Ybad.underlying22 Ybad.underlying5 cells5 hf0 with ⟨hcs, _⟩ | ⟨a, len', cap', zs, hcs, _, hl, hm, hz, _, hcell, hwf⟩
      · simp [Value.cells] at hcs
        obtain ⟨rfl, rfl, rfl⟩ := hcs
        exact fun h => absurd h (Nat.lt_irrefl 0)
      · simp [Value.cells] at hcs
        obtain ⟨rfl, rfl, rfl⟩ := hcs
        have hlen : zs.length = cap := by simpa using hz
        refine fun _ => ⟨a, rfl, fun j hj => ?_⟩
        have hjz : j < zs.length := by omega
        have e : zs.getD j 0 = zs[j] := by simp [List.getD, hjz]
        have hb := bounds_u8 (hwf _ (List.getElem_mem hjz))
        refine ⟨zs[j].toNat, by omega, ?_⟩
        rw [hcell j hjz, e, Int.toNat_of_nonneg hb.1]
    have hraw : m ≤ maxLen ∧ Hid (0 < m → ∃ ad, a1 = some ad ∧ ∀ j, j < m → ∃ s : ByteArray, W.cell? (ad.add j) = some (.string s) ∧ s.size ≤ maxLen) := by
      rcases open_strings Ybad.underlying23 Ybad.underlying9 cells9 hf1 with ⟨hcs, _⟩ | ⟨a, len', cap', ss, hcs, _, hl, hm, hz, _, hcell, hsz⟩
      · simp [Value.cells] at hcs
        obtain ⟨rfl, rfl, rfl⟩ := hcs
        exact ⟨by decide, fun h => absurd h (Nat.lt_irrefl 0)⟩
      · simp [Value.cells] at hcs
        obtain ⟨rfl, rfl, rfl⟩ := hcs
        have hlen : ss.length = rcap := by simpa using hz
        exact ⟨by omega, fun _ => ⟨a, rfl, fun j hj => ⟨_, hcell j (by omega), getD_small hsz j⟩⟩⟩
    exact atable_any a0 len cap a1 m rcap W hraw.1 hsel hraw.2 hS hE hg
  refine hcalls.mono fun e W' ⟨he, hb⟩ => ?_
  subst he
  exact ⟨_, rfl, law_post hW' (by kernel_rfl) (by kernel_rfl) (by kernel_rfl) rfl hb⟩

theorem atable_holds : Rows.LawS3411ATableSaid :=
  OpenClaim.holds_of_wide 3 Ybad.f3 rfl rfl rfl rfl rfl rfl rfl ⟨rfl, rfl, rfl, rfl, rfl⟩ rfl rfl rfl rfl rfl (by kernel_rfl) Ybad.func3 (by kernel_rfl)
    (of_decide_eq_true (by kernel_rfl)) (by unfold Func.isWrapper; first | (rw [if_pos (by decide +kernel)]; kernel_rfl) | (rw [if_neg (by decide +kernel)]; exact ⟨rfl, rfl⟩))
    (fun os started H enc _ => atable_lifted os started H enc)

theorem lawS3411ATableCard_proved : Rows.LawS3411ATableCardSaid :=
  Claim7.holds_tied_plain_at .later [] [.data, .data] true (true, "8dd4282317ca4d2b72ea8d52f194f938b1ab5947490ccac3393be83f8d80ef60") false
    atable_holds (fun _ h => by cases h) (by kernel_rfl) (fun _ h => by cases h) lawS3411ATable_row_tie rfl ⟨rfl, rfl⟩ (by kernel_rfl) rfl
    (fun f fn hf hfn => by
      obtain rfl : f = 3 := Option.some.inj ((show Ybad.prog.funcNamed Rows.lawS3411ATableRow.func = some 3 by kernel_rfl).symm.trans hf) |>.symm
      obtain rfl : fn = Ybad.f3 := (Option.some.inj (Ybad.func3.symm.trans hfn)).symm
      exact ⟨by kernel_rfl, fun j t ht => by
        rw [Ybad.params3] at ht
        have hm : t ∈ [22, 23] := by simpa using Array.mem_of_getElem? ht
        have hall : ([22, 23].all fun u => !Ybad.prog.wantsStandIn u) = true := by kernel_rfl
        exact (show Ybad.prog.wantsStandIn t = false by simpa using List.all_eq_true.1 hall t hm)⟩)
    (by kernel_rfl)
end Go.Proofs.YbulkbrpsDoor
