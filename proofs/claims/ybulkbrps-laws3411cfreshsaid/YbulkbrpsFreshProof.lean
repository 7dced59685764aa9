/-
  'elements.LawS3411CFresh': THE ROW PROVED.
-/
import Derived.Test.YbulkbrpsLift
import Derived.Test.YbulkbrpsFresh
namespace Go.Proofs.Ybulkbrps
open Go.ChangeShapes Go.WideShapes Go.ChangeAt Go.RowKit
open Go.ChangeMaps (open_string shut_string)

theorem cfresh_any (x y : Int) (s : ByteArray) (hs : s.size ≤ maxLen) (w : World) :
    Calls Yba.prog 5 #[.int .u32 x, .int .u16 y, .string s] w fun e w' => e = .returned (.bool true) ∧ Below w.heap.size w w' := by
  by_cases h : 1024 < s.size
  · exact cfresh_long x y s hs h w
  · rcases row_or_none x y with ⟨j, hj, h1, h2, hno⟩ | hno
    · exact cfresh_hit x y s hs h w j hj h1 h2 hno
    · exact cfresh_miss x y s hs h w hno

set_option maxRecDepth 100000 in
theorem cfresh_lifted (os : Os) (started : os.Started) (H : Type) (enc : TypeId × Value → H) :
    ReturnsInHanded {} Yba.checked os 5 .any (Rows.lawS3411CFreshSpec.pre6 enc Yba.prog Yba.f5 Rows.lawS3411CFreshRow.domain false) (Rows.lawS3411CFreshSpec.post enc Yba.prog Yba.f5 false true false false) := by
  refine returnsInHanded_of_change (C := Yba.checked) own started (by kernel_rfl) Yba.func5
    (ChangeSpec.witness6 (enc := enc) (C := Yba.checked) false ⟨#[], #[.int .u32 0, .int .u16 0, .string ByteArray.empty], []⟩ 8 (by kernel_rfl) (by kernel_rfl) (by kernel_rfl) (by kernel_rfl)) ?_
  intro W base args ds gs before hval0 hW hcnd _
  have hval : ∀ (j : Nat) t v, Yba.f5.params[j]? = some t → args[j]? = some v → Value.okWide Yba.prog W .any base t v := hval0
  have hW' := hW
  obtain ⟨p, q, hA0, hV, rfl, hfz, hnd⟩ := hW
  have hA : DataW.TrodAll enc Yba.prog W 0 (fun _ => true) true Yba.f5.params.toList args.toList ds p := hA0
  rw [Yba.params5] at hA hval
  obtain ⟨v0, vs0, d0, ds0, p0, q0, hargs, rfl, rfl, h0, r0⟩ := trodAll_cons hA
  obtain ⟨v1, vs1, d1, ds1, p1, q1, rfl, rfl, rfl, h1, r1⟩ := trodAll_cons r0
  obtain ⟨v2, vs2, d2, ds2, p2, q2, rfl, rfl, rfl, h2, r2⟩ := trodAll_cons r1
  obtain ⟨rfl, rfl, rfl⟩ := trodAll_nil r2
  obtain rfl : args = #[v0, v1, v2] := by cases args; simp_all
  obtain ⟨rfl, rfl⟩ := trodVars_none hV
  obtain ⟨a0, rfl, rfl, rfl, w0⟩ := open_int Yba.underlying22 (hval 0 22 v0 rfl rfl) h0
  obtain ⟨a1, rfl, rfl, rfl, w1⟩ := open_int Yba.underlying23 (hval 1 23 v1 rfl rfl) h1
  obtain ⟨a2, rfl, rfl, rfl, w2⟩ := open_string Yba.underlying9 (hval 2 9 v2 rfl rfl) h2
  refine (cfresh_any a0 a1 a2 w2 W).mono fun e W' ⟨he, hb⟩ => ?_
  subst he
  exact ⟨_, rfl, law_post hW' (by kernel_rfl) (by kernel_rfl) (by kernel_rfl) rfl hb⟩

theorem cfresh_holds : Rows.lawS3411CFreshRow.holds Yba.pinned (OpenSpec.ofChange Rows.lawS3411CFreshSpec) :=
  OpenClaim.holds_of_wide 5 Yba.f5 rfl rfl rfl rfl rfl rfl rfl ⟨rfl, rfl, rfl, rfl, rfl⟩ rfl rfl rfl rfl rfl (by kernel_rfl) Yba.func5 (by kernel_rfl)
    (of_decide_eq_true (by kernel_rfl)) (by unfold Func.isWrapper; first | (rw [if_pos (by decide +kernel)]; kernel_rfl) | (rw [if_neg (by decide +kernel)]; exact ⟨rfl, rfl⟩))
    (fun os started H enc _ => cfresh_lifted os started H enc)

/-- THE STATEMENT. -/
theorem lawS3411CFresh_proved : Rows.LawS3411CFreshSaid :=
  cfresh_holds
end Go.Proofs.Ybulkbrps
