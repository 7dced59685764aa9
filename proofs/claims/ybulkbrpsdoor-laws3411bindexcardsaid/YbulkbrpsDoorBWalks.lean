/-
  THE WALKS OF package discard: (Class).Code, ClassOf, zzs3411btable, and the three laws over them.
-/
import Derived.Test.YbulkbrpsDoorProg
import Derived.Test.YbulkbrpsDoorBTab
import Derived.WalkKit
import Derived.WalkSpells
import Derived.WalkLawsBesides
import Derived.Great.BuildSlice
namespace Go.Proofs.YbulkbrpsDoor
open Go.RowKit

theorem idx_at (k : Nat) (hk : k < 39) (w : World) : (Instr.index 49 (.agg tabV) (.int .i64 k)).run Ybad.prog w = .ok (.string (nm k)) w := by
  have h := tabV_at k hk
  simp [Instr.index, go_sem, hk, h]

theorem eqB {a b : ByteArray} (h : a = b) : (a.toList == b.toList) = true := by subst h; simp
theorem neB {a b : ByteArray} (h : a ≠ b) : (a.toList == b.toList) = false := by
  refine beq_eq_false_iff_ne.2 fun e => h ?_
  rw [ByteArray.toList_eq, ByteArray.toList_eq] at e
  cases a; cases b
  exact congrArg ByteArray.mk (Array.toList_inj.1 e)

/-- 'Code' of a name that stands in the tree, first at j. -/
theorem code_hit (s : ByteArray) (w : World) (tt : TypeId) (fr : Nat × Nat) (hg : w.heap[0]? = some (.cells tabV tt fr)) (j : Nat) (hj : j < 39) (hs : nm j = s) (hno : ∀ i, i < j → nm i ≠ s) :
    Calls Ybad.prog 11 #[.string s] w fun e w' => e = .returned (.tuple #[.int .u64 j, .bool true]) ∧ w' = w := by
  go_enter Ybad.func11, Ybad.ntmps11
  go_wp2_with (refine wpList_load_row rfl 49 _ rfl 0 rfl tt _ fr _ hg Ybad.underlying49 rfl (by kernel_rfl) ?_)
  go_loop [7] (fun i => ∃ k : Nat, k ≤ j ∧ i = .int .i64 k) (fun i => 39 - (intOf i).toNat)
  case atStart => exact ⟨0, Nat.zero_le _, rfl⟩
  case round =>
    obtain ⟨k, hk, rfl⟩ := hrel
    have hix := idx_at k (by omega)
    by_cases hlt : k < j
    · have hne := neB (hno k hlt)
      clear hs hno hg
      go_wp2
      go_round
      case rel => exact ⟨k + 1, by omega, by go_num⟩
      case measure => simp [intOf]; omega
    · have hkj : k = j := by omega
      subst hkj
      have hne := eqB hs
      clear hs hno hg
      go_wp2
      go_ret2
      exact ⟨rfl, rfl⟩

/-- 'Code' of a name that stands nowhere in the tree. -/
theorem code_miss (s : ByteArray) (w : World) (tt : TypeId) (fr : Nat × Nat) (hg : w.heap[0]? = some (.cells tabV tt fr)) (hno : ∀ i, i < 39 → nm i ≠ s) :
    Calls Ybad.prog 11 #[.string s] w fun e w' => e = .returned (.tuple #[.int .u64 0, .bool false]) ∧ w' = w := by
  go_enter Ybad.func11, Ybad.ntmps11
  go_wp2_with (refine wpList_load_row rfl 49 _ rfl 0 rfl tt _ fr _ hg Ybad.underlying49 rfl (by kernel_rfl) ?_)
  go_loop [7] (fun i => ∃ k : Nat, k ≤ 39 ∧ i = .int .i64 k) (fun i => 39 - (intOf i).toNat)
  case atStart => exact ⟨0, Nat.zero_le _, rfl⟩
  case round =>
    obtain ⟨k, hk, rfl⟩ := hrel
    by_cases hlt : k < 39
    · have hix := idx_at k hlt
      have hne := neB (hno k hlt)
      clear hno hg
      go_wp2
      go_round
      case rel => exact ⟨k + 1, by omega, by go_num⟩
      case measure => simp [intOf]; omega
    · clear hno hg
      go_wp2
      go_ret2
      exact ⟨rfl, rfl⟩

/-- 'ClassOf' of a code of the tree. -/
theorem classOf_in (j : Nat) (hj : j < 39) (w : World) (hc : w.cell? ⟨0, j, none⟩ = some (.string (nm j))) :
    Calls Ybad.prog 12 #[.int .u64 j] w fun e w' => e = .returned (.string (nm j)) ∧ w' = w := by
  go_enter Ybad.func12, Ybad.ntmps12
  go_wp2
  go_ret
  exact ⟨rfl, rfl⟩

def Z28 : Array Value := Array.replicate 39 (.string ⟨#[]⟩)

theorem setRow_alloc (w : World) (old cs : Array Value) (t : TypeId) (fr : Nat × Nat) : (w.alloc (.cells old t fr)).setRow w.heap.size cs = w.alloc (.cells cs t fr) := by
  unfold World.setRow World.alloc
  congr 1
  apply Array.ext_getElem?
  intro i
  simp only [Array.getElem?_modify, Array.getElem?_push]
  by_cases h : i = w.heap.size
  · subst h; simp
  · simp [h, Ne.symm h]

theorem run_alloc28 (w : World) : (Instr.alloc 28 true (.tuple #[])).run Ybad.prog w = .ok (.pointer (some ⟨w.heap.size, 0, none⟩)) (w.alloc (.cells Z28 28)) := by kernel_rfl

theorem wpList_alloc28 {ops : Array Oper} {rest : List Oper} {o : Oper} {a : Act} {w : World} {Q : Exit → Act → World → Prop} (hgd : o.guard = none) (hop : o.op = .alloc 28)
    (h : wpList Ybad.prog ops Q rest (a.put o.dst (.pointer (some ⟨w.heap.size, 0, none⟩))) (w.alloc (.cells Z28 28))) : wpList Ybad.prog ops Q (o :: rest) a w :=
  wpList_plain hgd fun _ hK => by
    unfold Oper.wp execOp
    simp only [hop, Sem.run_bind, run_alloc28, Result.andThen_ok]
    exact hK _ _ h

theorem one_tabV : tabV.all (·.oneCell') = true := by decide +kernel

theorem wpList_store28 {ops : Array Oper} {rest : List Oper} {o : Oper} {a : Act} {w : World} {Q : Exit → Act → World → Prop} (hgd : o.guard = none) (x y : Operand) (hop : o.op = .store 28 x y)
    (hx : a.eval x = .pointer (some ⟨w.heap.size, 0, none⟩)) (hy : a.eval y = .agg tabV)
    (h : wpList Ybad.prog ops Q rest (a.put o.dst undef) (w.alloc (.cells tabV 28))) : wpList Ybad.prog ops Q (o :: rest) a (w.alloc (.cells Z28 28)) := by
  refine wpList_store_row hgd 28 x y hop w.heap.size tabV hx hy 28 Z28 (heap_alloc_new _ _) (by kernel_rfl) (by decide +kernel) one_tabV ?_
  rw [setRow_alloc]; exact h


/-- The law's own copy of the tree: the same 39 names, in a block of its own. -/
theorem btable (w : World) :
    Calls Ybad.prog 10 #[] w fun e w' => e = .returned (.agg tabV) ∧ w' = w.alloc (.cells tabV 28) := by
  go_enter Ybad.func10, Ybad.ntmps10
  go_wp2_with (first | refine wpList_alloc28 rfl rfl ?_ | refine wpList_buildTo rfl 28 _ rfl _ rfl tabV (by kernel_rfl) ?_ | refine wpList_store28 rfl _ _ rfl (by rfl) (by rfl) ?_)
  exact bodyPost_ret (v := .agg tabV) (results_cell_row (p := 0) (ty := 28) Ybad.results10 _ _ w.heap.size 28 tabV (0, 0) _ (by rfl) (heap_alloc_new _ _) Ybad.underlying28 rfl (by kernel_rfl)) rfl ⟨rfl, rfl⟩

end Go.Proofs.YbulkbrpsDoor
