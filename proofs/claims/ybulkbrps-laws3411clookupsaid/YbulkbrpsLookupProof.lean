/-
  'elements.LawS3411CLookup': THE ROW PROVED.
-/
import Derived.Test.YbulkbrpsLift
import Derived.Test.YbulkbrpsLookup
namespace Go.Proofs.Ybulkbrps
open Go.ChangeShapes Go.WideShapes Go.ChangeAt Go.RowKit
open Go.ChangeMaps (open_string shut_string)

theorem clookup_any (x y : Int) (wx : (Lit.int .u32 x).wf = true) (w : World) :
    Calls Yba.prog 3 #[.int .u32 x, .int .u16 y] w fun e w' => e = .returned (.bool true) ∧ Below w.heap.size w w' := by
  have bd := bounds_u32 wx
  by_cases t0 : x % 3 = 0
  · have t0' : (x % 3 == 0) = true := by simpa using t0
    rcases row_or_none 0 y with ⟨j, hj, h1, h2, hno⟩ | hno
    · exact clookup_zero_hit x y bd.1 bd.2 w t0' j hj h1 h2 hno
    · exact clookup_zero_miss x y bd.1 bd.2 w t0' hno
  have t0' : (x % 3 == 0) = false := beq_eq_false_iff_ne.2 t0
  by_cases t1 : x % 3 = 1
  · have t1' : (x % 3 == 1) = true := by simpa using t1
    rcases row_or_none 32473 y with ⟨j, hj, h1, h2, hno⟩ | hno
    · exact clookup_one_hit x y bd.1 bd.2 w t0' t1' j hj h1 h2 hno
    · exact clookup_one_miss x y bd.1 bd.2 w t0' t1' hno
  · have t1' : (x % 3 == 1) = false := beq_eq_false_iff_ne.2 t1
    rcases row_or_none x y with ⟨j, hj, h1, h2, hno⟩ | hno
    · exact clookup_raw_hit x y bd.1 bd.2 w t0' t1' j hj h1 h2 hno
    · exact clookup_raw_miss x y bd.1 bd.2 w t0' t1' hno

set_option maxRecDepth 100000 in
theorem clookup_lifted (os : Os) (started : os.Started) (H : Type) (enc : TypeId × Value → H) :
    ReturnsInHanded {} Yba.checked os 3 .any (Rows.lawS3411CLookupSpec.pre6 enc Yba.prog Yba.f3 Rows.lawS3411CLookupRow.domain false) (Rows.lawS3411CLookupSpec.post enc Yba.prog Yba.f3 false true false false) := by
  refine returnsInHanded_of_change (C := Yba.checked) own started (by kernel_rfl) Yba.func3
    (ChangeSpec.witness6 (enc := enc) (C := Yba.checked) false ⟨#[], #[.int .u32 0, .int .u16 0], []⟩ 8 (by kernel_rfl) (by kernel_rfl) (by kernel_rfl) (by kernel_rfl)) ?_
  intro W base args ds gs before hval0 hW hcnd _
  have hval : ∀ (j : Nat) t v, Yba.f3.params[j]? = some t → args[j]? = some v → Value.okWide Yba.prog W .any base t v := hval0
  have hW' := hW
  obtain ⟨p, q, hA0, hV, rfl, hfz, hnd⟩ := hW
  have hA : DataW.TrodAll enc Yba.prog W 0 (fun _ => true) true Yba.f3.params.toList args.toList ds p := hA0
  rw [Yba.params3] at hA hval
  obtain ⟨v0, vs0, d0, ds0, p0, q0, hargs, rfl, rfl, h0, r0⟩ := trodAll_cons hA
  obtain ⟨v1, vs1, d1, ds1, p1, q1, rfl, rfl, rfl, h1, r1⟩ := trodAll_cons r0
  obtain ⟨rfl, rfl, rfl⟩ := trodAll_nil r1
  obtain rfl : args = #[v0, v1] := by cases args; simp_all
  obtain ⟨rfl, rfl⟩ := trodVars_none hV
  obtain ⟨a0, rfl, rfl, rfl, w0⟩ := open_int Yba.underlying22 (hval 0 22 v0 rfl rfl) h0
  obtain ⟨a1, rfl, rfl, rfl, w1⟩ := open_int Yba.underlying23 (hval 1 23 v1 rfl rfl) h1
  refine (clookup_any a0 a1 w0 W).mono fun e W' ⟨he, hb⟩ => ?_
  subst he
  exact ⟨_, rfl, law_post hW' (by kernel_rfl) (by kernel_rfl) (by kernel_rfl) rfl hb⟩

theorem clookup_holds : Rows.lawS3411CLookupRow.holds Yba.pinned (OpenSpec.ofChange Rows.lawS3411CLookupSpec) :=
  OpenClaim.holds_of_wide 3 Yba.f3 rfl rfl rfl rfl rfl rfl rfl ⟨rfl, rfl, rfl, rfl, rfl⟩ rfl rfl rfl rfl rfl (by kernel_rfl) Yba.func3 (by kernel_rfl)
    (of_decide_eq_true (by kernel_rfl)) (by unfold Func.isWrapper; first | (rw [if_pos (by decide +kernel)]; kernel_rfl) | (rw [if_neg (by decide +kernel)]; exact ⟨rfl, rfl⟩))
    (fun os started H enc _ => clookup_lifted os started H enc)

/-- THE STATEMENT. -/
theorem lawS3411CLookup_proved : Rows.LawS3411CLookupSaid :=
  clookup_holds
end Go.Proofs.Ybulkbrps
