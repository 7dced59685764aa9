/-
  'discard.LawS3411BIndex': THE ROW PROVED, AND ITS TIED CARD.
-/
import Derived.Test.YbulkbrpsDoorBLaws
import Derived.Test.YbulkbrpsDoorBLaid
import Derived.Test.YbulkbrpsDoorTie
import Derived.Test.YbulkbrpsDoorCards
namespace Go.Proofs.YbulkbrpsDoor
open Go.ChangeShapes Go.WideShapes Go.ChangeAt Go.RowKit

set_option maxRecDepth 100000 in
theorem bindex_lifted (os : Os) (started : os.Started) (H : Type) (enc : TypeId × Value → H) :
    ReturnsInHanded {} Ybad.checked os 5 .any (fun w args => (Rows.lawS3411BIndexSpec.pre enc Ybad.prog Ybad.f5 [] false w args ∧ laidMetH Ybad.prog treeLaid w) ∧ sizedMet enc Ybad.prog Ybad.f5 (OpenSpec.ofChange Rows.lawS3411BIndexSpec) false w args)
      (Rows.lawS3411BIndexSpec.post enc Ybad.prog Ybad.f5 false true false false) := by
  refine returnsInHanded_of_change_and (C := Ybad.checked) (X := fun w _ => laidMetH Ybad.prog treeLaid w) (fun _ _ _ hh h => h.of_heap hh) own started (by kernel_rfl) Ybad.func5
    (ChangeSpec.witness_shaped (enc := enc) (C := Ybad.checked) (os := os) (X := fun w _ => laidMetH Ybad.prog treeLaid w) false (World.doorLaid Ybad.prog 400 os) #[.int .u64 0] 8 rfl (World.shaped_of_RefB (by kernel_rfl) (by kernel_rfl)) (by kernel_rfl) (by kernel_rfl) (by kernel_rfl) (door_met os _)) ?_
  intro W base args ds gs before hval0 hW _ _ hL _
  have hval : ∀ (j : Nat) t v, Ybad.f5.params[j]? = some t → args[j]? = some v → Value.okWide Ybad.prog W .any base t v := hval0
  have hW' := hW
  obtain ⟨p, q, hA0, hV, rfl, hfz, hnd⟩ := hW
  have hA : DataW.TrodAll enc Ybad.prog W 0 (fun _ => true) true Ybad.f5.params.toList args.toList ds p := hA0
  obtain ⟨g, t, cs, fuel, d1, p1, rfl, _⟩ := trodVars_one hV
  rw [Ybad.params5] at hA hval
  obtain ⟨v0, d0, rfl, rfl, h0⟩ := trodAll_one hA
  obtain ⟨k, rfl, rfl, rfl, wk⟩ := open_int Ybad.underlying27 (hval 0 27 v0 rfl rfl) h0
  obtain ⟨tt, fr, hg⟩ := of_tree hL
  have bd := bounds_u64 wk
  refine (bindex k bd.1 bd.2 W tt fr hg).mono fun e W' ⟨he, hb⟩ => ?_
  subst he
  exact ⟨_, rfl, law_post hW' (by kernel_rfl) (by kernel_rfl) (by kernel_rfl) rfl hb⟩

theorem bindex_holds : Rows.LawS3411BIndexSaid :=
  OpenClaim.holds_of_wide 5 Ybad.f5 rfl rfl rfl rfl rfl rfl rfl ⟨rfl, rfl, rfl, rfl, rfl⟩ rfl rfl rfl rfl rfl (by kernel_rfl) Ybad.func5 (by kernel_rfl)
    (of_decide_eq_true (by kernel_rfl)) (by unfold Func.isWrapper; first | (rw [if_pos (by decide +kernel)]; kernel_rfl) | (rw [if_neg (by decide +kernel)]; exact ⟨rfl, rfl⟩))
    (fun os started H enc _ => bindex_lifted os started H enc)

theorem lawS3411BIndexCard_proved : Rows.LawS3411BIndexCardSaid :=
  Claim7.holds_tied_plain_at .later [] [.widerDeep] true (true, "8dd4282317ca4d2b72ea8d52f194f938b1ab5947490ccac3393be83f8d80ef60") false
    bindex_holds (fun _ h => by cases h) (by kernel_rfl) (fun _ h => by cases h) lawS3411BIndex_row_tie rfl ⟨rfl, rfl⟩ (by kernel_rfl) rfl
    (fun f fn hf hfn => by
      obtain rfl : f = 5 := Option.some.inj ((show Ybad.prog.funcNamed Rows.lawS3411BIndexRow.func = some 5 by kernel_rfl).symm.trans hf) |>.symm
      obtain rfl : fn = Ybad.f5 := (Option.some.inj (Ybad.func5.symm.trans hfn)).symm
      exact ⟨by kernel_rfl, fun j t ht => by
        rw [Ybad.params5] at ht
        have hm : t ∈ [27] := by simpa using Array.mem_of_getElem? ht
        have hall : ([27].all fun u => !Ybad.prog.wantsStandIn u) = true := by kernel_rfl
        exact (show Ybad.prog.wantsStandIn t = false by simpa using List.all_eq_true.1 hall t hm)⟩)
    (by kernel_rfl)
end Go.Proofs.YbulkbrpsDoor
