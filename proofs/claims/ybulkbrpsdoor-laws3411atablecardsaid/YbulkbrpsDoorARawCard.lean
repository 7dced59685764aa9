/-
  'record.LawS3411ARaw': THE ROW PROVED, AND ITS TIED CARD.
-/
import Derived.Test.YbulkbrpsDoorALaws
import Derived.Test.YbulkbrpsDoorALaid
import Derived.Test.YbulkbrpsDoorTie
import Derived.Test.YbulkbrpsDoorCards
import Derived.SliceStrings
namespace Go.Proofs.YbulkbrpsDoor
open Go.ChangeShapes Go.WideShapes Go.ChangeAt Go.RowKit

theorem getD_small {ss : List ByteArray} (h : ∀ s ∈ ss, s.size ≤ maxLen) (j : Nat) : (ss.getD j ByteArray.empty).size ≤ maxLen := by
  by_cases hj : j < ss.length
  · have e : ss.getD j ByteArray.empty = ss[j] := by simp [List.getD, hj]
    rw [e]
    exact h _ (List.getElem_mem hj)
  · have e : ss.getD j ByteArray.empty = ByteArray.empty := by simp [List.getD, List.getElem?_eq_none (Nat.le_of_not_lt hj)]
    rw [e]; decide
theorem getD_take {ss : List ByteArray} {n j : Nat} (hj : j < n) : (ss.take n).getD j ByteArray.empty = ss.getD j ByteArray.empty := by
  simp [List.getD, hj]

set_option maxRecDepth 100000 in
theorem araw_lifted (os : Os) (started : os.Started) (H : Type) (enc : TypeId × Value → H) :
    ReturnsInHanded {} Ybad.checked os 4 .any (fun w args => (Rows.lawS3411ARawSpec.pre enc Ybad.prog Ybad.f4 [] false w args ∧ laidMetH Ybad.prog namesLaid w) ∧ sizedMet enc Ybad.prog Ybad.f4 (OpenSpec.ofChange Rows.lawS3411ARawSpec) false w args)
      (Rows.lawS3411ARawSpec.post enc Ybad.prog Ybad.f4 false true false false) := by
  refine returnsInHanded_of_change_and (C := Ybad.checked) (X := fun w _ => laidMetH Ybad.prog namesLaid w) (fun _ _ _ hh h => h.of_heap hh) own started (by kernel_rfl) Ybad.func4
    (ChangeSpec.witness_shaped (enc := enc) (C := Ybad.checked) (os := os) (X := fun w _ => laidMetH Ybad.prog namesLaid w) false (World.doorLaid Ybad.prog 400 os) #[.slice none 0 0] 8 rfl (World.shaped_of_RefB (by kernel_rfl) (by kernel_rfl)) (by kernel_rfl) (by kernel_rfl) (by kernel_rfl) (names_met os _)) ?_
  intro W base args ds gs before hval0 hW _ _ hL _
  have hval : ∀ (j : Nat) t v, Ybad.f4.params[j]? = some t → args[j]? = some v → Value.okWide Ybad.prog W .any base t v := hval0
  have hW' := hW
  obtain ⟨p, q, hA0, hV, rfl, hfz, hnd⟩ := hW
  have hA : DataW.TrodAll enc Ybad.prog W 0 (fun _ => true) true Ybad.f4.params.toList args.toList ds p := hA0
  obtain ⟨g0, t0, cs0, f0, d1, p0, g1, t1, cs1, f1, d2, p1, rfl, _⟩ := trodVars_two hV
  rw [Ybad.params4] at hA hval
  obtain ⟨v0, d0, rfl, rfl, h0⟩ := trodAll_one hA
  obtain ⟨a0, len, cap, rfl⟩ := okWide_slice Ybad.underlying23 (hval 0 23 v0 rfl rfl)
  obtain ⟨hS, hE, hg⟩ := of_names hL
  have hcalls : Calls Ybad.prog 4 #[.slice a0 len cap] W fun e w' => e = .returned (.bool true) ∧ Below W.heap.size W w' := by
    obtain ⟨fuel, hf⟩ := h0
    rcases open_strings Ybad.underlying23 Ybad.underlying9 cells9 hf with ⟨hcs, _⟩ | ⟨a, len', cap', ss, hcs, _, hl, hm, hz, _, hcell, hsz⟩
    · simp [Value.cells] at hcs
      obtain ⟨rfl, rfl, rfl⟩ := hcs
      exact araw_any none 0 0 [] W rfl (fun h => absurd h (Nat.lt_irrefl 0)) hS hE hg (fun j => getD_small (fun s hs => by cases hs) j)
    · simp [Value.cells] at hcs
      obtain ⟨rfl, rfl, rfl⟩ := hcs
      have hlen : ss.length = cap := by simpa using hz
      refine araw_any (some a) len cap (ss.take len) W (by show _ = _; rw [List.length_take]; omega) (fun _ => ⟨a, rfl, fun j hj => ?_⟩) hS hE hg (fun j => getD_small (fun s hs => hsz s (List.mem_of_mem_take hs)) j)
      rw [getD_take hj]
      exact hcell j (by omega)
  refine hcalls.mono fun e W' ⟨he, hb⟩ => ?_
  subst he
  exact ⟨_, rfl, law_post hW' (by kernel_rfl) (by kernel_rfl) (by kernel_rfl) rfl hb⟩

theorem araw_holds : Rows.LawS3411ARawSaid :=
  OpenClaim.holds_of_wide 4 Ybad.f4 rfl rfl rfl rfl rfl rfl rfl ⟨rfl, rfl, rfl, rfl, rfl⟩ rfl rfl rfl rfl rfl (by kernel_rfl) Ybad.func4 (by kernel_rfl)
    (of_decide_eq_true (by kernel_rfl)) (by unfold Func.isWrapper; first | (rw [if_pos (by decide +kernel)]; kernel_rfl) | (rw [if_neg (by decide +kernel)]; exact ⟨rfl, rfl⟩))
    (fun os started H enc _ => araw_lifted os started H enc)

theorem lawS3411ARawCard_proved : Rows.LawS3411ARawCardSaid :=
  Claim7.holds_tied_plain_at .later [] [.data, .data] true (true, "8dd4282317ca4d2b72ea8d52f194f938b1ab5947490ccac3393be83f8d80ef60") false
    araw_holds (fun _ h => by cases h) (by kernel_rfl) (fun _ h => by cases h) lawS3411ARaw_row_tie rfl ⟨rfl, rfl⟩ (by kernel_rfl) rfl
    (fun f fn hf hfn => by
      obtain rfl : f = 4 := Option.some.inj ((show Ybad.prog.funcNamed Rows.lawS3411ARawRow.func = some 4 by kernel_rfl).symm.trans hf) |>.symm
      obtain rfl : fn = Ybad.f4 := (Option.some.inj (Ybad.func4.symm.trans hfn)).symm
      exact ⟨by kernel_rfl, fun j t ht => by
        rw [Ybad.params4] at ht
        have hm : t ∈ [23] := by simpa using Array.mem_of_getElem? ht
        have hall : ([23].all fun u => !Ybad.prog.wantsStandIn u) = true := by kernel_rfl
        exact (show Ybad.prog.wantsStandIn t = false by simpa using List.all_eq_true.1 hall t hm)⟩)
    (by kernel_rfl)
end Go.Proofs.YbulkbrpsDoor
