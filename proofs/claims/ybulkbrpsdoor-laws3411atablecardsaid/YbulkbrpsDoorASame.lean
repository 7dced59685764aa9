/-
  A 'positions' IS EQUAL TO ITSELF: the model's comparison of two structs of arrays of integers and a bool.
-/
import Derived.Test.YbulkbrpsDoorAEnv
import Derived.DeepKeys
namespace Go.Proofs.YbulkbrpsDoor
open Go.RowKit

theorem eqItems_self {P : Program} (w : World) (dd : Nat) (e : TypeId) (c : Nat) (xs : Array Value) : ∀ is : List Nat, (∀ i ∈ is, ∃ a, (part e xs (i * c)).run P w = .ok a w ∧ (Op.equalIn dd e a a).run P w = .ok true w) → (Op.eqItems dd e c xs xs is).run P w = .ok true w
  | [], _ => by simp [Op.eqItems]
  | i :: is, h => by
    obtain ⟨a, h1, h2⟩ := h i (by simp)
    have ih := eqItems_self w dd e c xs is (fun j hj => h j (by simp [hj]))
    simp only [Op.eqItems, Sem.run_bind, h1, h2, Result.andThen_ok]
    simpa using ih
theorem eqFields_self {P : Program} (w : World) (dd : Nat) (xs : Array Value) : ∀ fs : List Field, (∀ f ∈ fs, ∃ a, (part f.type xs f.offset).run P w = .ok a w ∧ (Op.equalIn dd f.type a a).run P w = .ok true w) → (Op.eqFields dd xs xs fs).run P w = .ok true w
  | [], _ => by simp [Op.eqFields]
  | f :: fs, h => by
    obtain ⟨a, h1, h2⟩ := h f (by simp)
    have ih := eqFields_self w dd xs fs (fun j hj => h j (by simp [hj]))
    by_cases hn : f.name ≠ "_"
    · simp only [Op.eqFields, if_pos hn, Sem.run_bind, h1, h2, Result.andThen_ok]
      simpa using ih
    · simp only [Op.eqFields, if_neg hn]
      exact ih

theorem int_self (w : World) (d : Nat) (a : Int) : (Op.equalIn (d + 1) 21 (.int .i32 a) (.int .i32 a)).run Ybad.prog w = .ok true w := by
  rw [run_equalIn_int w d 21 .i32 .i32 a a (by kernel_rfl)]
  simp
theorem five_self (w : World) (a b c d e : Int) : (Op.equalIn 9999 43 (.agg #[.int .i32 a, .int .i32 b, .int .i32 c, .int .i32 d, .int .i32 e]) (.agg #[.int .i32 a, .int .i32 b, .int .i32 c, .int .i32 d, .int .i32 e])).run Ybad.prog w = .ok true w := by
  obtain ⟨i, hi⟩ : ∃ i, Ybad.prog.info? 21 = some i := Option.isSome_iff_exists.1 (by kernel_rfl)
  rw [run_equalIn_array w 9998 (n := 5) (e := 21) _ _ (by kernel_rfl) hi, show Ybad.prog.cellsOf 21 = 1 from by kernel_rfl]
  refine eqItems_self w _ _ _ _ _ fun j hj => ?_
  have hj5 : j < 5 := by simpa using hj
  match j, hj5 with
  | 0, _ => exact ⟨.int .i32 a, by kernel_rfl, int_self w 9997 a⟩
  | 1, _ => exact ⟨.int .i32 b, by kernel_rfl, int_self w 9997 b⟩
  | 2, _ => exact ⟨.int .i32 c, by kernel_rfl, int_self w 9997 c⟩
  | 3, _ => exact ⟨.int .i32 d, by kernel_rfl, int_self w 9997 d⟩
  | 4, _ => exact ⟨.int .i32 e, by kernel_rfl, int_self w 9997 e⟩
theorem three_self (w : World) (a b c : Int) : (Op.equalIn 9999 44 (.agg #[.int .i32 a, .int .i32 b, .int .i32 c]) (.agg #[.int .i32 a, .int .i32 b, .int .i32 c])).run Ybad.prog w = .ok true w := by
  obtain ⟨i, hi⟩ : ∃ i, Ybad.prog.info? 21 = some i := Option.isSome_iff_exists.1 (by kernel_rfl)
  rw [run_equalIn_array w 9998 (n := 3) (e := 21) _ _ (by kernel_rfl) hi, show Ybad.prog.cellsOf 21 = 1 from by kernel_rfl]
  refine eqItems_self w _ _ _ _ _ fun j hj => ?_
  have hj5 : j < 3 := by simpa using hj
  match j, hj5 with
  | 0, _ => exact ⟨.int .i32 a, by kernel_rfl, int_self w 9997 a⟩
  | 1, _ => exact ⟨.int .i32 b, by kernel_rfl, int_self w 9997 b⟩
  | 2, _ => exact ⟨.int .i32 c, by kernel_rfl, int_self w 9997 c⟩
theorem pos_fields : ((Ybad.prog.fieldsOf 46).toList.map fun (f : Go.Field) => (f.type, f.offset)) = [(43, 0), (43, 5), (44, 10), (4, 13)] := by kernel_rfl
theorem neq46_self (f g h : Nat → Int) (r : Bool) (w : World) : (binOp .neq 46 (.agg (posC f g h r)) (.agg (posC f g h r))).run Ybad.prog w = .ok (.bool false) w := by
  have hE : (Op.equalIn (9999 + 1) 46 (.agg (posC f g h r)) (.agg (posC f g h r))).run Ybad.prog w = .ok true w := by
    rw [run_equalIn_struct w 9999 46 _ _ (by kernel_rfl) (by kernel_rfl)]
    refine eqFields_self w _ _ _ fun fd hf => ?_
    have hm : (fd.type, fd.offset) ∈ [((43 : TypeId), 0), (43, 5), (44, 10), (4, 13)] := by
      rw [← pos_fields]; exact List.mem_map_of_mem hf
    simp only [List.mem_cons, Prod.mk.injEq, List.not_mem_nil, or_false] at hm
    rcases hm with ⟨e1, e2⟩ | ⟨e1, e2⟩ | ⟨e1, e2⟩ | ⟨e1, e2⟩ <;> rw [e1, e2]
    · exact ⟨_, by kernel_rfl, five_self w (f 0) (f 1) (f 2) (f 3) (f 4)⟩
    · exact ⟨_, by kernel_rfl, five_self w (g 0) (g 1) (g 2) (g 3) (g 4)⟩
    · exact ⟨_, by kernel_rfl, three_self w (h 0) (h 1) (h 2)⟩
    · refine ⟨.bool r, by kernel_rfl, ?_⟩
      rw [run_equalIn_bool w 9998 4 r r (by kernel_rfl)]
      simp
  rw [run_neq_struct, hE]
  rfl
end Go.Proofs.YbulkbrpsDoor
