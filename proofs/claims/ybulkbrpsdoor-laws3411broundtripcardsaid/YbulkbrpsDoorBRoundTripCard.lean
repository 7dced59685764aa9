/-
  'discard.LawS3411BRoundTrip': THE ROW PROVED, AND ITS TIED CARD.
-/
import Derived.Test.YbulkbrpsDoorBLaws
import Derived.Test.YbulkbrpsDoorBLaid
import Derived.Test.YbulkbrpsDoorTie
import Derived.Test.YbulkbrpsDoorCards
namespace Go.Proofs.YbulkbrpsDoor
open Go.ChangeShapes Go.WideShapes Go.ChangeAt Go.RowKit
open Go.ChangeMaps (open_string shut_string)

theorem bround_any (s : ByteArray) (w : World) (tt : TypeId) (fr : Nat × Nat) (hg : w.heap[0]? = some (.cells tabV tt fr)) :
    Calls Ybad.prog 7 #[.string s] w fun e w' => e = .returned (.bool true) ∧ Below w.heap.size w w' := by
  rcases first_or_none s with ⟨j, hj, hs, hno⟩ | hno
  · exact (bround_hit s w tt fr hg j hj hs hno).mono fun e w' ⟨he, hw⟩ => ⟨he, hw ▸ Below.refl _ _⟩
  · exact (bround_miss s w tt fr hg hno).mono fun e w' ⟨he, hw⟩ => ⟨he, hw ▸ Below.refl _ _⟩

set_option maxRecDepth 100000 in
theorem bround_lifted (os : Os) (started : os.Started) (H : Type) (enc : TypeId × Value → H) :
    ReturnsInHanded {} Ybad.checked os 7 .any (fun w args => (Rows.lawS3411BRoundTripSpec.pre enc Ybad.prog Ybad.f7 [] false w args ∧ laidMetH Ybad.prog treeLaid w) ∧ sizedMet enc Ybad.prog Ybad.f7 (OpenSpec.ofChange Rows.lawS3411BRoundTripSpec) false w args)
      (Rows.lawS3411BRoundTripSpec.post enc Ybad.prog Ybad.f7 false true false false) := by
  refine returnsInHanded_of_change_and (C := Ybad.checked) (X := fun w _ => laidMetH Ybad.prog treeLaid w) (fun _ _ _ hh h => h.of_heap hh) own started (by kernel_rfl) Ybad.func7
    (ChangeSpec.witness_shaped (enc := enc) (C := Ybad.checked) (os := os) (X := fun w _ => laidMetH Ybad.prog treeLaid w) false (World.doorLaid Ybad.prog 400 os) #[.string ByteArray.empty] 8 rfl (World.shaped_of_RefB (by kernel_rfl) (by kernel_rfl)) (by kernel_rfl) (by kernel_rfl) (by kernel_rfl) (door_met os _)) ?_
  intro W base args ds gs before hval0 hW _ _ hL _
  have hval : ∀ (j : Nat) t v, Ybad.f7.params[j]? = some t → args[j]? = some v → Value.okWide Ybad.prog W .any base t v := hval0
  have hW' := hW
  obtain ⟨p, q, hA0, hV, rfl, hfz, hnd⟩ := hW
  have hA : DataW.TrodAll enc Ybad.prog W 0 (fun _ => true) true Ybad.f7.params.toList args.toList ds p := hA0
  obtain ⟨g, t, cs, fuel, d1, p1, rfl, _⟩ := trodVars_one hV
  rw [Ybad.params7] at hA hval
  obtain ⟨v0, d0, rfl, rfl, h0⟩ := trodAll_one hA
  obtain ⟨s, rfl, rfl, rfl, hs⟩ := open_string Ybad.underlying9 (hval 0 9 v0 rfl rfl) h0
  obtain ⟨tt, fr, hg⟩ := of_tree hL
  refine (bround_any s W tt fr hg).mono fun e W' ⟨he, hb⟩ => ?_
  subst he
  exact ⟨_, rfl, law_post hW' (by kernel_rfl) (by kernel_rfl) (by kernel_rfl) rfl hb⟩

theorem bround_holds : Rows.LawS3411BRoundTripSaid :=
  OpenClaim.holds_of_wide 7 Ybad.f7 rfl rfl rfl rfl rfl rfl rfl ⟨rfl, rfl, rfl, rfl, rfl⟩ rfl rfl rfl rfl rfl (by kernel_rfl) Ybad.func7 (by kernel_rfl)
    (of_decide_eq_true (by kernel_rfl)) (by unfold Func.isWrapper; first | (rw [if_pos (by decide +kernel)]; kernel_rfl) | (rw [if_neg (by decide +kernel)]; exact ⟨rfl, rfl⟩))
    (fun os started H enc _ => bround_lifted os started H enc)

theorem lawS3411BRoundTripCard_proved : Rows.LawS3411BRoundTripCardSaid :=
  Claim7.holds_tied_plain_at .later [] [.widerDeep] true (true, "8dd4282317ca4d2b72ea8d52f194f938b1ab5947490ccac3393be83f8d80ef60") false
    bround_holds (fun _ h => by cases h) (by kernel_rfl) (fun _ h => by cases h) lawS3411BRoundTrip_row_tie rfl ⟨rfl, rfl⟩ (by kernel_rfl) rfl
    (fun f fn hf hfn => by
      obtain rfl : f = 7 := Option.some.inj ((show Ybad.prog.funcNamed Rows.lawS3411BRoundTripRow.func = some 7 by kernel_rfl).symm.trans hf) |>.symm
      obtain rfl : fn = Ybad.f7 := (Option.some.inj (Ybad.func7.symm.trans hfn)).symm
      exact ⟨by kernel_rfl, fun j t ht => by
        rw [Ybad.params7] at ht
        have hm : t ∈ [9] := by simpa using Array.mem_of_getElem? ht
        have hall : ([9].all fun u => !Ybad.prog.wantsStandIn u) = true := by kernel_rfl
        exact (show Ybad.prog.wantsStandIn t = false by simpa using List.all_eq_true.1 hall t hm)⟩)
    (by kernel_rfl)
end Go.Proofs.YbulkbrpsDoor
