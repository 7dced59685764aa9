/-
  elements.zzs3411ctable: a new slice of the table's 35 rows.
-/
import Derived.Test.YbulkbrpsBuiltin
namespace Go.Proofs.Ybulkbrps
open Go Go.RowKit

def chkRow (ops : Array Oper) (k : Nat) : Bool := match ops[k]? with
  | some o => o.guard.isNone && o.dst == some (k + 1) && (match o.op with
    | .build 38 ⟨[(0, .const (.int .u32 x)), (1, .const (.int .u16 y)), (2, .const (.string s)), (3, .const (.string t))]⟩ => x == ent k && y == el k && decide (s = name k) && decide (t = typ k)
    | _ => false)
  | _ => false
def tmpsFrom : List (Nat × Operand) → Nat → Bool
  | [], _ => true
  | (i, .tmp t) :: r, n => i == n && t == n + 1 && tmpsFrom r (n + 1)
  | _, _ => false
def chkSlice (ops : Array Oper) : Bool := match ops[35]? with
  | some o => o.guard.isNone && o.dst == some 36 && (match o.op with
    | .buildSlice 35 35 parts => parts.toList.length == 35 && tmpsFrom parts.toList 0
    | _ => false)
  | _ => false
def chkGive (ops : Array Oper) : Bool := match ops[36]? with
  | some o => o.guard.isNone && o.dst == some 0 && (match o.op with
    | .assign (.tmp 36) => true
    | _ => false)
  | _ => false

theorem built38 (x y : Int) (s t : ByteArray) : Yba.prog.built 38 [(0, .int .u32 x), (1, .int .u16 y), (2, .string s), (3, .string t)] = some #[.int .u32 x, .int .u16 y, .string s, .string t] := by kernel_rfl

theorem row_run {ops : Array Oper} {k : Nat} (h : chkRow ops k = true) : ∃ o, ops[k]? = some o ∧ o.guard = none ∧ o.dst = some (k + 1) ∧ ∀ (a : Act) (w : World), (execOp a.eval o).run Yba.prog w = .ok (.value (rowV k)) w := by
  unfold chkRow at h
  split at h
  · rename_i o ho
    simp only [Bool.and_eq_true, beq_iff_eq, Option.isNone_iff_eq_none] at h
    obtain ⟨⟨h1, h2⟩, h3⟩ := h
    split at h3
    · rename_i x y s t hop
      simp only [Bool.and_eq_true, beq_iff_eq, decide_eq_true_eq] at h3
      obtain ⟨⟨⟨rfl, rfl⟩, rfl⟩, rfl⟩ := h3
      refine ⟨o, ho, h1, h2, fun a w => ?_⟩
      simp only [execOp, hop, Sem.run_bind]
      rw [run_build (P := Yba.prog) w 38 _ #[.int .u32 (ent k), .int .u16 (el k), .string (name k), .string (typ k)] (by simpa [Act.eval] using built38 _ _ _ _)]
      rfl
    · cases h3
  · cases h

theorem tmps_eval {a : Act} : ∀ (l : List (Nat × Operand)) (n : Nat), tmpsFrom l n = true → (∀ j, n ≤ j → j < n + l.length → a.tmps[j + 1]? = some (rowV j)) → (l.map fun (i, x) => (i, a.eval x)) = (List.range' n l.length).map fun i => (i, rowV i)
  | [], _, _, _ => rfl
  | (i, .tmp t) :: r, n, h, ha => by
    simp only [tmpsFrom, Bool.and_eq_true, beq_iff_eq] at h
    obtain ⟨⟨rfl, rfl⟩, h3⟩ := h
    have ih := tmps_eval r (i + 1) h3 (fun j h1 h2 => ha j (by omega) (by simp; omega))
    simp only [List.map_cons, List.length_cons, List.range'_succ, ih, eval_tmp (ha i (Nat.le_refl _) (by simp))]
  | (_, .const _) :: _, _, h, _ => by simp [tmpsFrom] at h
  | (_, .global _) :: _, _, h, _ => by simp [tmpsFrom] at h
  | (_, .func _) :: _, _, h, _ => by simp [tmpsFrom] at h

theorem fill_all : Instr.fill (fun i => some (i * 4, 4)) ((Array.range (35 * 4)).map ((#[.int .u32 0, .int .u16 0, .string ⟨#[]⟩, .string ⟨#[]⟩] : Array Value)[· % 4]!)) ((List.range' 0 35).map fun i => (i, rowV i)) = some CELLS := by kernel_rfl

theorem slice_run {ops : Array Oper} (h : chkSlice ops = true) : ∃ o, ops[35]? = some o ∧ o.guard = none ∧ o.dst = some 36 ∧ ∀ (a : Act) (w : World), (∀ j, j < 35 → a.tmps[j + 1]? = some (rowV j)) →
    (execOp a.eval o).run Yba.prog w = .ok (.value (.slice (some ⟨w.heap.size, 0, none⟩) 35 35)) (w.alloc (.cells CELLS 38)) := by
  unfold chkSlice at h
  split at h
  · rename_i o ho
    simp only [Bool.and_eq_true, beq_iff_eq, Option.isNone_iff_eq_none] at h
    obtain ⟨⟨h1, h2⟩, h3⟩ := h
    split at h3
    · rename_i parts hop
      simp only [Bool.and_eq_true, beq_iff_eq] at h3
      obtain ⟨hlen, hfrom⟩ := h3
      refine ⟨o, ho, h1, h2, fun a w ha => ?_⟩
      have hp := tmps_eval (a := a) parts.toList 0 hfrom (fun j _ hj => ha j (by omega))
      rw [hlen] at hp
      cases hie : Yba.prog.info? 38 with
      | none =>
        have : (Yba.prog.info? 38).isSome = true := by kernel_rfl
        rw [hie] at this; cases this
      | some ie =>
        have hsz : (Yba.prog.info? 38).map (fun i => (i.size, i.zero)) = some (4, some (.agg #[.int .u32 0, .int .u16 0, .string ⟨#[]⟩, .string ⟨#[]⟩])) := by kernel_rfl
        rw [hie] at hsz
        simp only [Option.map_some, Option.some.injEq, Prod.mk.injEq] at hsz
        simp only [execOp, hop, Sem.run_bind]
        rw [run_buildSlice (P := Yba.prog) w 35 38 35 _ CELLS ie _ Yba.underlying35 hie hsz.2 (by rw [hsz.1]; decide) (by rw [hsz.1]; decide) (by
          rw [Array.toList_map]
          rw [show (List.map (fun x : Nat × Operand => (x.1, a.eval x.2)) parts.toList) = _ from hp, hsz.1]
          exact fill_all)]
        rfl
    · cases h3
  · cases h

theorem give_run {ops : Array Oper} (h : chkGive ops = true) : ∃ o, ops[36]? = some o ∧ o.guard = none ∧ o.dst = some 0 ∧ ∀ (a : Act) (w : World), (execOp a.eval o).run Yba.prog w = .ok (.value (a.eval (.tmp 36))) w := by
  unfold chkGive at h
  split at h
  · rename_i o ho
    simp only [Bool.and_eq_true, beq_iff_eq, Option.isNone_iff_eq_none] at h
    obtain ⟨⟨h1, h2⟩, h3⟩ := h
    split at h3
    · rename_i hop
      exact ⟨o, ho, h1, h2, fun a w => by simp only [execOp, hop]; rfl⟩
    · cases h3
  · cases h

theorem wpList_value {P : Program} {ops : Array Oper} {rest : List Oper} {o : Oper} {a : Act} {w w' : World} {Q : Exit → Act → World → Prop} {v : Value} (hg : o.guard = none) (hrun : (execOp a.eval o).run P w = .ok (.value v) w')
    (h : wpList P ops Q rest (a.put o.dst v) w') : wpList P ops Q (o :: rest) a w :=
  wpList_plain hg fun _ hK => by
    unfold Oper.wp
    rw [hrun, Oper.upon_value]
    exact hK _ _ h

theorem table_region {ops : Array Oper} {Q : Exit → Act → World → Prop} {id : Nat} {a : Act} {w : World} (hsize : ops.size = 37) (hchk : ((List.range 35).all (chkRow ops)) = true) (hsl : chkSlice ops = true) (hgv : chkGive ops = true)
    (hs : a.tmps.size = 37) (hd : a.defers = [])
    (h : ∀ a' : Act, a'.defers = [] → a'.tmps[0]? = some (.slice (some ⟨w.heap.size, 0, none⟩) 35 35) → Q .normal a' (w.alloc (.cells CELLS 38))) :
    (Code.region id ops false).wp Yba.prog Q a w := by
  refine wp_region_list ?_
  have key : ∀ (m k : Nat), k + m = 35 → ∀ a : Act, a.tmps.size = 37 → a.defers = [] → (∀ j, j < k → a.tmps[j + 1]? = some (rowV j)) → wpList Yba.prog ops Q (ops.toList.drop k) a w := by
    intro m
    induction m with
    | zero =>
      intro k hk a hs hd ha
      obtain rfl : k = 35 := by omega
      obtain ⟨o, ho, g, d, hrun⟩ := slice_run hsl
      obtain ⟨o', ho', g', d', hrun'⟩ := give_run hgv
      have e1 : ops.toList.drop 35 = o :: o' :: [] := by
        rw [← Array.getElem?_toList] at ho ho'
        rw [List.drop_eq_getElem_cons (by simp [hsize]), List.drop_eq_getElem_cons (by simp [hsize]), List.drop_eq_nil_of_le (by simp [hsize])]
        rw [List.getElem?_eq_getElem (by simp [hsize])] at ho ho'
        rw [Option.some.inj ho, Option.some.inj ho']
      rw [e1]
      refine wpList_value g (hrun a w ha) (wpList_value g' (hrun' _ _) (wpList_nil ?_))
      rw [d, d', eval_tmp (put_same _ _ _ (by omega))]
      exact h _ hd (put_same _ _ _ (by rw [put_size]; omega))
    | succ m ih =>
      intro k hk a hs hd ha
      obtain ⟨o, ho, g, d, hrun⟩ := row_run (List.all_eq_true.1 hchk k (List.mem_range.2 (by omega)))
      have e1 : ops.toList.drop k = o :: ops.toList.drop (k + 1) := by
        rw [← Array.getElem?_toList] at ho
        rw [List.drop_eq_getElem_cons (by simp [hsize]; omega)]
        rw [List.getElem?_eq_getElem (by simp [hsize]; omega)] at ho
        rw [Option.some.inj ho]
      rw [e1]
      refine wpList_value g (hrun a w) ?_
      rw [d]
      refine ih (k + 1) (by omega) _ (by rw [put_size]; exact hs) hd (fun j hj => ?_)
      by_cases hjk : j = k
      · subst hjk; exact put_same _ _ _ (by omega)
      · rw [put_other _ _ _ _ (by omega)]; exact ha j (by omega)
  exact key 35 0 rfl a hs hd (by simp)

theorem ctable_any (w : World) :
    Calls Yba.prog 8 #[] w fun e w' => e = .returned (.slice (some ⟨w.heap.size, 0, none⟩) 35 35) ∧ w' = w.alloc (.cells CELLS 38) := by
  go_enter Yba.func8, Yba.ntmps8
  refine wp_seq (wp_region_list (wpList_value rfl rfl (wpList_nil ?_)))
  show Code.wp _ _ _ _ _
  refine wp_seq (table_region (by kernel_rfl) (by kernel_rfl) (by kernel_rfl) (by kernel_rfl) rfl rfl ?_)
  intro a hd h0
  show Code.wp _ _ _ _ _
  refine wp_ret ?_
  exact bodyPost_ret (v := .slice (some ⟨w.heap.size, 0, none⟩) 35 35) (by simp [results, Yba.results8, h0]) hd ⟨rfl, rfl⟩
end Go.Proofs.Ybulkbrps
