/-
  positionsOf's STATEMENT 'p.repeats = seen[word]&bit != 0 && fieldIndex(fields[:i], f.Name) >= 0': ONE REGION OF 17 OPERATIONS THAT DRAWS ITS ORDER AND HOLDS A CALL, walked by an invariant, over a frame that is a variable.
-/
import Derived.Test.YbulkbrpsDoorAPosEnv
import Derived.Test.YbulkbrpsDoorRegion
namespace Go.Proofs.YbulkbrpsDoor
open Go.RowKit

theorem eval_tmp {a : Act} {t : Nat} {v : Value} (h : a.tmps[t]? = some v) : a.eval (.tmp t) = v := by
  simp [Act.eval, h]
theorem put_size (a : Act) (d : Nat) (v : Value) : (a.put (some d) v).tmps.size = a.tmps.size := by simp [Act.put]
theorem put_same (a : Act) (d : Nat) (v : Value) (h : d < a.tmps.size) : (a.put (some d) v).tmps[d]? = some v := by simp [Act.put, h]
theorem put_other (a : Act) (d t : Nat) (v : Value) (h : d ≠ t) : (a.put (some d) v).tmps[t]? = a.tmps[t]? := by
  simp [Act.put, h]
theorem wpOp_value {P : Program} {ops : Array Oper} {Q : Exit → Act → World → Prop} {K : Act → World → Prop} {i : Nat} {o : Oper} {a : Act} {w w' : World} {v : Value} (ho : ops[i]? = some o) (hw : Region.wanted o (yielded ops a.tmps) = true)
    (hrun : (execOp a.eval o).run P w = .ok (.value v) w') (h : K (a.put o.dst v) w') : wpOp P ops Q i K a w := by
  unfold wpOp
  simp only [ho, hw, if_true, Oper.wp, hrun, Oper.upon]
  exact .inl h
theorem wpOp_skip {P : Program} {ops : Array Oper} {Q : Exit → Act → World → Prop} {K : Act → World → Prop} {i : Nat} {o : Oper} {a : Act} {w w' : World} (ho : ops[i]? = some o) (hw : Region.wanted o (yielded ops a.tmps) = true)
    (hrun : (execOp a.eval o).run P w = .ok .skip w') (h : K (a.put o.dst undef) w') : wpOp P ops Q i K a w := by
  unfold wpOp
  simp only [ho, hw, if_true, Oper.wp, hrun, Oper.upon]
  exact .inl h
theorem wpOp_not {P : Program} {ops : Array Oper} {Q : Exit → Act → World → Prop} {K : Act → World → Prop} {i : Nat} {o : Oper} {a : Act} {w : World} (ho : ops[i]? = some o) (hw : Region.wanted o (yielded ops a.tmps) = false)
    (h : K (a.put o.dst undef) w) : wpOp P ops Q i K a w := by
  unfold wpOp
  simp only [ho, hw]
  exact h
theorem wpOp_enter {P : Program} {ops : Array Oper} {Q : Exit → Act → World → Prop} {K : Act → World → Prop} {i : Nat} {o : Oper} {a : Act} {w : World} {f : FuncId} {args : Array Value} {v : Value} {M : World → Prop} (ho : ops[i]? = some o) (hw : Region.wanted o (yielded ops a.tmps) = true)
    (hrun : (execOp a.eval o).run P w = .ok (.enter f args) w) (hc : Calls P f args w fun e w' => e = .returned v ∧ M w') (h : ∀ w', M w' → K (a.put o.dst v) w') : wpOp P ops Q i K a w := by
  unfold wpOp
  simp only [ho, hw, if_true, Oper.wp, hrun, Oper.upon]
  refine .inl (hc.mono fun e w' ⟨he, hM⟩ => ?_)
  subst he
  exact h w' hM

def waits (o : Oper) (i : Nat) : Bool := o.after.toList.any fun e => Region.binds .any e && e.on == i
theorem waits_spec {o : Oper} {i : Nat} {L : Nat → Bool} (h : waits o i = true) (hL : ∀ e ∈ o.after, Region.binds .any e = true → L e.on = true) : L i = true := by
  unfold waits at h
  obtain ⟨e, he, h1⟩ := List.any_eq_true.1 h
  simp only [Bool.and_eq_true, beq_iff_eq] at h1
  have := hL e (by simpa using he) h1.1
  rw [h1.2] at this
  exact this
def chkBack (ops : Array Oper) (i : Nat) : Bool := match ops[i]? with
  | some o => o.after.toList.all fun e => !Region.binds .any e || decide (e.on < i)
  | _ => false

def chk0 (ops : Array Oper) : Bool := match ops[0]? with
  | some o => decide (o.guard = none) && decide (o.dst = some 110) && (match o.op with
    | .move (.tmp 14) => true
    | _ => false)
  | _ => false
theorem is0 {ops : Array Oper} (h : chk0 ops = true) : ∃ o, ops[0]? = some o ∧ o.guard = none ∧ o.dst = some 110 ∧ o.op = .move (.tmp 14) := by
  unfold chk0 at h
  split at h
  · rename_i o ho
    simp only [Bool.and_eq_true, decide_eq_true_eq] at h
    obtain ⟨⟨h1, h2⟩, h3⟩ := h
    split at h3
    · rename_i hop
      exact ⟨o, ho, h1, h2, hop⟩
    · cases h3
  · cases h
def chk1 (ops : Array Oper) : Bool := match ops[1]? with
  | some o => decide (o.guard = none) && decide (o.dst = some 111) && waits o 0 && (match o.op with
    | .indexAddr 52 (.tmp 7) (.tmp 110) => true
    | _ => false)
  | _ => false
theorem is1 {ops : Array Oper} (h : chk1 ops = true) : ∃ o, ops[1]? = some o ∧ o.guard = none ∧ o.dst = some 111 ∧ waits o 0 = true ∧ o.op = .indexAddr 52 (.tmp 7) (.tmp 110) := by
  unfold chk1 at h
  split at h
  · rename_i o ho
    simp only [Bool.and_eq_true, decide_eq_true_eq] at h
    obtain ⟨⟨⟨h1, h2⟩, d0⟩, h3⟩ := h
    split at h3
    · rename_i hop
      exact ⟨o, ho, h1, h2, d0, hop⟩
    · cases h3
  · cases h
def chk2 (ops : Array Oper) : Bool := match ops[2]? with
  | some o => decide (o.guard = none) && decide (o.dst = some 112) && waits o 1 && (match o.op with
    | .load 30 (.tmp 111) => true
    | _ => false)
  | _ => false
theorem is2 {ops : Array Oper} (h : chk2 ops = true) : ∃ o, ops[2]? = some o ∧ o.guard = none ∧ o.dst = some 112 ∧ waits o 1 = true ∧ o.op = .load 30 (.tmp 111) := by
  unfold chk2 at h
  split at h
  · rename_i o ho
    simp only [Bool.and_eq_true, decide_eq_true_eq] at h
    obtain ⟨⟨⟨h1, h2⟩, d1⟩, h3⟩ := h
    split at h3
    · rename_i hop
      exact ⟨o, ho, h1, h2, d1, hop⟩
    · cases h3
  · cases h
def chk3 (ops : Array Oper) : Bool := match ops[3]? with
  | some o => decide (o.guard = none) && decide (o.dst = some 113) && (match o.op with
    | .move (.tmp 15) => true
    | _ => false)
  | _ => false
theorem is3 {ops : Array Oper} (h : chk3 ops = true) : ∃ o, ops[3]? = some o ∧ o.guard = none ∧ o.dst = some 113 ∧ o.op = .move (.tmp 15) := by
  unfold chk3 at h
  split at h
  · rename_i o ho
    simp only [Bool.and_eq_true, decide_eq_true_eq] at h
    obtain ⟨⟨h1, h2⟩, h3⟩ := h
    split at h3
    · rename_i hop
      exact ⟨o, ho, h1, h2, hop⟩
    · cases h3
  · cases h
def chk4 (ops : Array Oper) : Bool := match ops[4]? with
  | some o => decide (o.guard = none) && decide (o.dst = some 114) && waits o 2 && waits o 3 && (match o.op with
    | .binOp .and 30 (.tmp 112) (.tmp 113) 30 => true
    | _ => false)
  | _ => false
theorem is4 {ops : Array Oper} (h : chk4 ops = true) : ∃ o, ops[4]? = some o ∧ o.guard = none ∧ o.dst = some 114 ∧ waits o 2 = true ∧ waits o 3 = true ∧ o.op = .binOp .and 30 (.tmp 112) (.tmp 113) 30 := by
  unfold chk4 at h
  split at h
  · rename_i o ho
    simp only [Bool.and_eq_true, decide_eq_true_eq] at h
    obtain ⟨⟨⟨⟨h1, h2⟩, d2⟩, d3⟩, h3⟩ := h
    split at h3
    · rename_i hop
      exact ⟨o, ho, h1, h2, d2, d3, hop⟩
    · cases h3
  · cases h
def chk5 (ops : Array Oper) : Bool := match ops[5]? with
  | some o => decide (o.guard = none) && decide (o.dst = some 115) && waits o 4 && (match o.op with
    | .binOp .neq 30 (.tmp 114) (.const (.int .u64 0)) 30 => true
    | _ => false)
  | _ => false
theorem is5 {ops : Array Oper} (h : chk5 ops = true) : ∃ o, ops[5]? = some o ∧ o.guard = none ∧ o.dst = some 115 ∧ waits o 4 = true ∧ o.op = .binOp .neq 30 (.tmp 114) (.const (.int .u64 0)) 30 := by
  unfold chk5 at h
  split at h
  · rename_i o ho
    simp only [Bool.and_eq_true, decide_eq_true_eq] at h
    obtain ⟨⟨⟨h1, h2⟩, d4⟩, h3⟩ := h
    split at h3
    · rename_i hop
      exact ⟨o, ho, h1, h2, d4, hop⟩
    · cases h3
  · cases h
def chk6 (ops : Array Oper) : Bool := match ops[6]? with
  | some o => decide (o.guard = none) && decide (o.dst = some 116) && waits o 5 && (match o.op with
    | .move (.tmp 115) => true
    | _ => false)
  | _ => false
theorem is6 {ops : Array Oper} (h : chk6 ops = true) : ∃ o, ops[6]? = some o ∧ o.guard = none ∧ o.dst = some 116 ∧ waits o 5 = true ∧ o.op = .move (.tmp 115) := by
  unfold chk6 at h
  split at h
  · rename_i o ho
    simp only [Bool.and_eq_true, decide_eq_true_eq] at h
    obtain ⟨⟨⟨h1, h2⟩, d5⟩, h3⟩ := h
    split at h3
    · rename_i hop
      exact ⟨o, ho, h1, h2, d5, hop⟩
    · cases h3
  · cases h
def chk7 (ops : Array Oper) : Bool := match ops[7]? with
  | some o => decide (o.guard = some (6, true)) && decide (o.dst = some 117) && waits o 6 && (match o.op with
    | .move (.tmp 0) => true
    | _ => false)
  | _ => false
theorem is7 {ops : Array Oper} (h : chk7 ops = true) : ∃ o, ops[7]? = some o ∧ o.guard = some (6, true) ∧ o.dst = some 117 ∧ waits o 6 = true ∧ o.op = .move (.tmp 0) := by
  unfold chk7 at h
  split at h
  · rename_i o ho
    simp only [Bool.and_eq_true, decide_eq_true_eq] at h
    obtain ⟨⟨⟨h1, h2⟩, d6⟩, h3⟩ := h
    split at h3
    · rename_i hop
      exact ⟨o, ho, h1, h2, d6, hop⟩
    · cases h3
  · cases h
def chk8 (ops : Array Oper) : Bool := match ops[8]? with
  | some o => decide (o.guard = some (6, true)) && decide (o.dst = some 118) && waits o 6 && (match o.op with
    | .move (.tmp 8) => true
    | _ => false)
  | _ => false
theorem is8 {ops : Array Oper} (h : chk8 ops = true) : ∃ o, ops[8]? = some o ∧ o.guard = some (6, true) ∧ o.dst = some 118 ∧ waits o 6 = true ∧ o.op = .move (.tmp 8) := by
  unfold chk8 at h
  split at h
  · rename_i o ho
    simp only [Bool.and_eq_true, decide_eq_true_eq] at h
    obtain ⟨⟨⟨h1, h2⟩, d6⟩, h3⟩ := h
    split at h3
    · rename_i hop
      exact ⟨o, ho, h1, h2, d6, hop⟩
    · cases h3
  · cases h
def chk9 (ops : Array Oper) : Bool := match ops[9]? with
  | some o => decide (o.guard = some (6, true)) && decide (o.dst = some 119) && waits o 6 && waits o 7 && waits o 8 && (match o.op with
    | .slice 39 (.tmp 117) none (some (.tmp 118)) none => true
    | _ => false)
  | _ => false
theorem is9 {ops : Array Oper} (h : chk9 ops = true) : ∃ o, ops[9]? = some o ∧ o.guard = some (6, true) ∧ o.dst = some 119 ∧ waits o 6 = true ∧ waits o 7 = true ∧ waits o 8 = true ∧ o.op = .slice 39 (.tmp 117) none (some (.tmp 118)) none := by
  unfold chk9 at h
  split at h
  · rename_i o ho
    simp only [Bool.and_eq_true, decide_eq_true_eq] at h
    obtain ⟨⟨⟨⟨⟨h1, h2⟩, d6⟩, d7⟩, d8⟩, h3⟩ := h
    split at h3
    · rename_i hop
      exact ⟨o, ho, h1, h2, d6, d7, d8, hop⟩
    · cases h3
  · cases h
def chk10 (ops : Array Oper) : Bool := match ops[10]? with
  | some o => decide (o.guard = some (6, true)) && decide (o.dst = some 120) && waits o 6 && (match o.op with
    | .fieldAddr 42 (.tmp 9) 0 => true
    | _ => false)
  | _ => false
theorem is10 {ops : Array Oper} (h : chk10 ops = true) : ∃ o, ops[10]? = some o ∧ o.guard = some (6, true) ∧ o.dst = some 120 ∧ waits o 6 = true ∧ o.op = .fieldAddr 42 (.tmp 9) 0 := by
  unfold chk10 at h
  split at h
  · rename_i o ho
    simp only [Bool.and_eq_true, decide_eq_true_eq] at h
    obtain ⟨⟨⟨h1, h2⟩, d6⟩, h3⟩ := h
    split at h3
    · rename_i hop
      exact ⟨o, ho, h1, h2, d6, hop⟩
    · cases h3
  · cases h
def chk11 (ops : Array Oper) : Bool := match ops[11]? with
  | some o => decide (o.guard = some (6, true)) && decide (o.dst = some 121) && waits o 6 && waits o 10 && (match o.op with
    | .load 9 (.tmp 120) => true
    | _ => false)
  | _ => false
theorem is11 {ops : Array Oper} (h : chk11 ops = true) : ∃ o, ops[11]? = some o ∧ o.guard = some (6, true) ∧ o.dst = some 121 ∧ waits o 6 = true ∧ waits o 10 = true ∧ o.op = .load 9 (.tmp 120) := by
  unfold chk11 at h
  split at h
  · rename_i o ho
    simp only [Bool.and_eq_true, decide_eq_true_eq] at h
    obtain ⟨⟨⟨⟨h1, h2⟩, d6⟩, d10⟩, h3⟩ := h
    split at h3
    · rename_i hop
      exact ⟨o, ho, h1, h2, d6, d10, hop⟩
    · cases h3
  · cases h
def chk12 (ops : Array Oper) : Bool := match ops[12]? with
  | some o => decide (o.guard = some (6, true)) && decide (o.dst = some 122) && waits o 6 && waits o 9 && waits o 11 && (match o.op with
    | .call ⟨.value (.func 17), ⟨[.tmp 119, .tmp 121]⟩, ⟨[39, 9]⟩⟩ => true
    | _ => false)
  | _ => false
theorem is12 {ops : Array Oper} (h : chk12 ops = true) : ∃ o, ops[12]? = some o ∧ o.guard = some (6, true) ∧ o.dst = some 122 ∧ waits o 6 = true ∧ waits o 9 = true ∧ waits o 11 = true ∧ o.op = .call { callee := .value (.func 17), args := #[.tmp 119, .tmp 121], argTypes := #[39, 9] } := by
  unfold chk12 at h
  split at h
  · rename_i o ho
    simp only [Bool.and_eq_true, decide_eq_true_eq] at h
    obtain ⟨⟨⟨⟨⟨h1, h2⟩, d6⟩, d9⟩, d11⟩, h3⟩ := h
    split at h3
    · rename_i hop
      exact ⟨o, ho, h1, h2, d6, d9, d11, hop⟩
    · cases h3
  · cases h
def chk13 (ops : Array Oper) : Bool := match ops[13]? with
  | some o => decide (o.guard = some (6, true)) && decide (o.dst = some 123) && waits o 6 && waits o 12 && (match o.op with
    | .binOp .geq 3 (.tmp 122) (.const (.int .i64 0)) 3 => true
    | _ => false)
  | _ => false
theorem is13 {ops : Array Oper} (h : chk13 ops = true) : ∃ o, ops[13]? = some o ∧ o.guard = some (6, true) ∧ o.dst = some 123 ∧ waits o 6 = true ∧ waits o 12 = true ∧ o.op = .binOp .geq 3 (.tmp 122) (.const (.int .i64 0)) 3 := by
  unfold chk13 at h
  split at h
  · rename_i o ho
    simp only [Bool.and_eq_true, decide_eq_true_eq] at h
    obtain ⟨⟨⟨⟨h1, h2⟩, d6⟩, d12⟩, h3⟩ := h
    split at h3
    · rename_i hop
      exact ⟨o, ho, h1, h2, d6, d12, hop⟩
    · cases h3
  · cases h
def chk14 (ops : Array Oper) : Bool := match ops[14]? with
  | some o => decide (o.guard = none) && decide (o.dst = some 124) && waits o 6 && waits o 13 && (match o.op with
    | .pick (.tmp 116) (.tmp 123) (.const (.bool false)) => true
    | _ => false)
  | _ => false
theorem is14 {ops : Array Oper} (h : chk14 ops = true) : ∃ o, ops[14]? = some o ∧ o.guard = none ∧ o.dst = some 124 ∧ waits o 6 = true ∧ waits o 13 = true ∧ o.op = .pick (.tmp 116) (.tmp 123) (.const (.bool false)) := by
  unfold chk14 at h
  split at h
  · rename_i o ho
    simp only [Bool.and_eq_true, decide_eq_true_eq] at h
    obtain ⟨⟨⟨⟨h1, h2⟩, d6⟩, d13⟩, h3⟩ := h
    split at h3
    · rename_i hop
      exact ⟨o, ho, h1, h2, d6, d13, hop⟩
    · cases h3
  · cases h
def chk15 (ops : Array Oper) : Bool := match ops[15]? with
  | some o => decide (o.guard = none) && decide (o.dst = some 125) && (match o.op with
    | .fieldAddr 46 (.tmp 3) 3 => true
    | _ => false)
  | _ => false
theorem is15 {ops : Array Oper} (h : chk15 ops = true) : ∃ o, ops[15]? = some o ∧ o.guard = none ∧ o.dst = some 125 ∧ o.op = .fieldAddr 46 (.tmp 3) 3 := by
  unfold chk15 at h
  split at h
  · rename_i o ho
    simp only [Bool.and_eq_true, decide_eq_true_eq] at h
    obtain ⟨⟨h1, h2⟩, h3⟩ := h
    split at h3
    · rename_i hop
      exact ⟨o, ho, h1, h2, hop⟩
    · cases h3
  · cases h
def chk16 (ops : Array Oper) : Bool := match ops[16]? with
  | some o => decide (o.guard = none) && decide (o.dst = none) && waits o 0 && waits o 1 && waits o 2 && waits o 3 && waits o 4 && waits o 5 && waits o 6 && waits o 7 && waits o 8 && waits o 9 && waits o 10 && waits o 11 && waits o 12 && waits o 13 && waits o 14 && waits o 15 && (match o.op with
    | .store 4 (.tmp 125) (.tmp 124) => true
    | _ => false)
  | _ => false
theorem is16 {ops : Array Oper} (h : chk16 ops = true) : ∃ o, ops[16]? = some o ∧ o.guard = none ∧ o.dst = none ∧ waits o 0 = true ∧ waits o 1 = true ∧ waits o 2 = true ∧ waits o 3 = true ∧ waits o 4 = true ∧ waits o 5 = true ∧ waits o 6 = true ∧ waits o 7 = true ∧ waits o 8 = true ∧ waits o 9 = true ∧ waits o 10 = true ∧ waits o 11 = true ∧ waits o 12 = true ∧ waits o 13 = true ∧ waits o 14 = true ∧ waits o 15 = true ∧ o.op = .store 4 (.tmp 125) (.tmp 124) := by
  unfold chk16 at h
  split at h
  · rename_i o ho
    simp only [Bool.and_eq_true, decide_eq_true_eq] at h
    obtain ⟨⟨⟨⟨⟨⟨⟨⟨⟨⟨⟨⟨⟨⟨⟨⟨⟨⟨h1, h2⟩, d0⟩, d1⟩, d2⟩, d3⟩, d4⟩, d5⟩, d6⟩, d7⟩, d8⟩, d9⟩, d10⟩, d11⟩, d12⟩, d13⟩, d14⟩, d15⟩, h3⟩ := h
    split at h3
    · rename_i hop
      exact ⟨o, ho, h1, h2, d0, d1, d2, d3, d4, d5, d6, d7, d8, d9, d10, d11, d12, d13, d14, d15, hop⟩
    · cases h3
  · cases h

/-! ### what each operation yields -/
theorem run_idx52_0 (w : World) (b : Nat) : (Instr.indexAt 52 (.pointer (some ⟨b, 0, none⟩)) (.int .u8 0)).run Ybad.prog w = .ok (.pointer (some ⟨b, 0, none⟩)) w := by kernel_rfl
theorem run_idx52_1 (w : World) (b : Nat) : (Instr.indexAt 52 (.pointer (some ⟨b, 0, none⟩)) (.int .u8 1)).run Ybad.prog w = .ok (.pointer (some ⟨b, 1, none⟩)) w := by kernel_rfl
theorem run_idx52_2 (w : World) (b : Nat) : (Instr.indexAt 52 (.pointer (some ⟨b, 0, none⟩)) (.int .u8 2)).run Ybad.prog w = .ok (.pointer (some ⟨b, 2, none⟩)) w := by kernel_rfl
theorem run_idx52_3 (w : World) (b : Nat) : (Instr.indexAt 52 (.pointer (some ⟨b, 0, none⟩)) (.int .u8 3)).run Ybad.prog w = .ok (.pointer (some ⟨b, 3, none⟩)) w := by kernel_rfl
theorem run_idx52 (w : World) (b q : Nat) (hq : q < 4) : (Instr.indexAt 52 (.pointer (some ⟨b, 0, none⟩)) (.int .u8 (q : Int))).run Ybad.prog w = .ok (.pointer (some ⟨b, q, none⟩)) w := by
  have h : q = 0 ∨ q = 1 ∨ q = 2 ∨ q = 3 := by omega
  rcases h with rfl | rfl | rfl | rfl
  · exact run_idx52_0 w b
  · exact run_idx52_1 w b
  · exact run_idx52_2 w b
  · exact run_idx52_3 w b
theorem run_load30 (w : World) (p : Addr) (v : Int) (h : w.cell? p = some (.int .u64 v)) : (Instr.loadAt 30 (.pointer (some p))).run Ybad.prog w = .ok (.int .u64 v) w := by
  simp [Instr.loadAt, Instr.sureAddr, go_sem, h]
theorem run_load9 (w : World) (p : Addr) (s : ByteArray) (h : w.cell? p = some (.string s)) : (Instr.loadAt 9 (.pointer (some p))).run Ybad.prog w = .ok (.string s) w := by
  simp [Instr.loadAt, Instr.sureAddr, go_sem, h]
theorem run_field42 (w : World) (b : Nat) : (Instr.fieldAt 42 (.pointer (some ⟨b, 0, none⟩)) 0).run Ybad.prog w = .ok (.pointer (some ⟨b, 0, none⟩)) w := by kernel_rfl
theorem run_field46 (w : World) (b : Nat) : (Instr.fieldAt 46 (.pointer (some ⟨b, 0, none⟩)) 3).run Ybad.prog w = .ok (.pointer (some ⟨b, 13, none⟩)) w := by kernel_rfl
theorem run_slice39 (w : World) (b k n : Nat) (hk : k ≤ n) : (Instr.sliceAt 39 (.slice (some ⟨b, 0, none⟩) n n) none (some (.int .i64 (k : Int))) none).run Ybad.prog w = .ok (.slice (some ⟨b, 0, none⟩) k n) w := by
  simp [Instr.sliceAt, go_sem, hk]
theorem run_store4 (w : World) (p : Addr) (u r : Bool) (h : w.cell? p = some (.bool u)) (hf : w.frozen? p = false) : (Instr.storeAt 4 (.pointer (some p)) (.bool r)).run Ybad.prog w = .ok () (w.setCell p (.bool r)) := by
  simp [Instr.storeAt, Instr.sureAddr, go_sem, h, hf]

/-- What the sixteen slots hold behind the statement. -/
def val30 (bf n k bs q fb pb cw bv av : Nat) (B : Bool) (jj : Int) (x : ByteArray) : List Value :=
  [.int .u8 (q : Int), .pointer (some ⟨bs, q, none⟩), .int .u64 (cw : Int), .int .u64 (bv : Int), .int .u64 (av : Int), .bool B, .bool B,
   if B then .slice (some ⟨bf, 0, none⟩) n n else undef, if B then .int .i64 (k : Int) else undef, if B then .slice (some ⟨bf, 0, none⟩) k n else undef, if B then .pointer (some ⟨fb, 0, none⟩) else undef, if B then .string x else undef,
   if B then .int .i64 jj else undef, if B then .bool (decide (0 ≤ jj)) else undef, .bool (B && decide (0 ≤ jj)), .pointer (some ⟨pb, 13, none⟩)]

structure R30 (a0 : Act) (W0 : World) (M : World → Prop) (vs : List Value) (pb : Nat) (res : Bool) (L : Nat → Bool) (a : Act) (w : World) : Prop where
  size : a.tmps.size = 134
  defers : a.defers = []
  slot : ∀ i, i < 16 → L i = true → a.tmps[110 + i]? = vs[i]?
  other : ∀ t, t < 110 ∨ 126 ≤ t → a.tmps[t]? = a0.tmps[t]?
  world : (L 16 = false ∧ ((L 12 = false ∧ w = W0) ∨ (L 12 = true ∧ M w))) ∨ (L 16 = true ∧ (∀ j, j < 16 → L j = true) ∧ ∃ w2, M w2 ∧ w = w2.setCell ⟨pb, 13, none⟩ (.bool res))

theorem R30.put {a0 : Act} {W0 : World} {M : World → Prop} {vs : List Value} {pb : Nat} {res : Bool} {L : Nat → Bool} {a : Act} {w : World} (I : R30 a0 W0 M vs pb res L a w) (i : Nat) (hi : i < 16) (h12 : i ≠ 12) {v : Value} (hv : vs[i]? = some v) {d : Option Nat} (hd : d = some (110 + i)) :
    R30 a0 W0 M vs pb res (fun j => decide (j = i) || L j) (a.put d v) w := by
  subst hd
  refine ⟨by rw [put_size]; exact I.size, I.defers, fun j hj hL => ?_, fun t ht => ?_, ?_⟩
  · by_cases e : j = i
    · subst e; rw [put_same _ _ _ (by rw [I.size]; omega), hv]
    · rw [put_other _ _ _ _ (by omega)]
      exact I.slot j hj (by simpa [e] using hL)
  · rw [put_other _ _ _ _ (by omega)]; exact I.other t ht
  · have h16 : ¬ 16 = i := by omega
    have h12' : ¬ 12 = i := fun e => h12 e.symm
    rcases I.world with ⟨w1, w2⟩ | ⟨w1, w2, w3⟩
    · exact Or.inl ⟨by simpa [h16] using w1, by simpa [h12'] using w2⟩
    · exact Or.inr ⟨by simp [w1], fun j hj => by simp [w2 j hj], w3⟩

theorem putFrom_get : ∀ (vs : List Value) (a : Act) (m t : Nat), m + vs.length ≤ a.tmps.size → (putFrom a m vs).tmps[t]? = if m ≤ t ∧ t < m + vs.length then vs[t - m]? else a.tmps[t]?
  | [], a, m, t, _ => by
    have : ¬ (m ≤ t ∧ t < m + ([] : List Value).length) := by simp
    rw [if_neg this]; rfl
  | v :: vs, a, m, t, h => by
    simp only [List.length_cons] at h
    rw [putFrom, putFrom_get vs _ (m + 1) t (by rw [put_size]; omega)]
    by_cases e : t = m
    · subst e
      have h1 : ¬ (t + 1 ≤ t ∧ t < t + 1 + vs.length) := by omega
      have h2 : t ≤ t ∧ t < t + (v :: vs).length := by simp
      rw [if_neg h1, if_pos h2, put_same _ _ _ (by omega)]
      simp
    · by_cases h3 : m + 1 ≤ t ∧ t < m + 1 + vs.length
      · have h4 : m ≤ t ∧ t < m + (v :: vs).length := by simp only [List.length_cons]; omega
        rw [if_pos h3, if_pos h4]
        obtain ⟨d, rfl⟩ : ∃ d, t = m + 1 + d := ⟨t - (m + 1), by omega⟩
        rw [show m + 1 + d - (m + 1) = d by omega, show m + 1 + d - m = d + 1 by omega]
        simp
      · have h4 : ¬ (m ≤ t ∧ t < m + (v :: vs).length) := by simp only [List.length_cons]; omega
        rw [if_neg h3, if_neg h4, put_other _ _ _ _ (fun e' => e e'.symm)]
theorem putFrom_defers : ∀ (vs : List Value) (a : Act) (m : Nat), (putFrom a m vs).defers = a.defers
  | [], _, _ => rfl
  | v :: vs, a, m => by rw [putFrom, putFrom_defers vs]; rfl

set_option maxHeartbeats 1000000 in
theorem region30 {ops : Array Oper} {Q : Exit → Act → World → Prop} {id : Nat} {a0 : Act} {W0 : World} (hm : Ybad.prog.follows .mixedOrders = true) (hsize : ops.size = 17) (hback : ((List.range 17).all (chkBack ops)) = true) (k0 : chk0 ops = true) (k1 : chk1 ops = true) (k2 : chk2 ops = true) (k3 : chk3 ops = true) (k4 : chk4 ops = true) (k5 : chk5 ops = true) (k6 : chk6 ops = true) (k7 : chk7 ops = true) (k8 : chk8 ops = true) (k9 : chk9 ops = true) (k10 : chk10 ops = true) (k11 : chk11 ops = true) (k12 : chk12 ops = true) (k13 : chk13 ops = true) (k14 : chk14 ops = true) (k15 : chk15 ops = true) (k16 : chk16 ops = true)
    (bf n k bs q fb pb cw bv av : Nat) (B : Bool) (jj : Int) (x : ByteArray) (M : World → Prop) (res : Bool) (hq : q < 4) (hkn : k ≤ n)
    (hs : a0.tmps.size = 134) (hd : a0.defers = []) (s0 : a0.tmps[0]? = some (.slice (some ⟨bf, 0, none⟩) n n)) (s3 : a0.tmps[3]? = some (.pointer (some ⟨pb, 0, none⟩))) (s7 : a0.tmps[7]? = some (.pointer (some ⟨bs, 0, none⟩)))
    (s8 : a0.tmps[8]? = some (.int .i64 (k : Int))) (s9 : a0.tmps[9]? = some (.pointer (some ⟨fb, 0, none⟩))) (s14 : a0.tmps[14]? = some (.int .u8 (q : Int))) (s15 : a0.tmps[15]? = some (.int .u64 (bv : Int)))
    (hS0 : W0.drew.cell? ⟨bs, q, none⟩ = some (.int .u64 (cw : Int)) ∧ W0.drew.cell? ⟨fb, 0, none⟩ = some (.string x)) (hS : ∀ w, M w → w.cell? ⟨bs, q, none⟩ = some (.int .u64 (cw : Int)) ∧ w.cell? ⟨fb, 0, none⟩ = some (.string x))
    (h13 : ∀ w, M w → (∃ u, w.cell? ⟨pb, 13, none⟩ = some (.bool u)) ∧ w.frozen? ⟨pb, 13, none⟩ = false)
    (hand : bits BinOp.and IntKind.u64 (cw : Int) (bv : Int) = (av : Int)) (hB : ((av : Int) != 0) = B)
    (hyes : B = true → Calls Ybad.prog 17 #[.slice (some ⟨bf, 0, none⟩) k n, .string x] W0.drew fun e w' => e = .returned (.int .i64 jj) ∧ M w') (hno : B = false → M W0.drew) (hres : (B && decide (0 ≤ jj)) = res)
    (h : ∀ (v0 v1 v2 v3 v4 v5 v6 v7 v8 v9 v10 v11 v12 v13 v14 v15 : Value) (w' : World), M w' → Q .normal (putFrom a0 110 [v0, v1, v2, v3, v4, v5, v6, v7, v8, v9, v10, v11, v12, v13, v14, v15]) (w'.setCell ⟨pb, 13, none⟩ (.bool res))) :
    (Code.region id ops true).wp Ybad.prog Q a0 W0 := by
  refine wp_region_inv hm (R30 a0 W0.drew M (val30 bf n k bs q fb pb cw bv av B jj x) pb res) ?_ ⟨hs, hd, by simp, fun _ _ => rfl, Or.inl ⟨rfl, Or.inl ⟨rfl, rfl⟩⟩⟩ ?_ ?_
  · intro i o ho e he hb
    have hi : i < 17 := by rw [← hsize]; exact (Array.getElem?_eq_some_iff.1 ho).1
    have := List.all_eq_true.1 hback i (List.mem_range.2 hi)
    unfold chkBack at this
    rw [ho] at this
    have := List.all_eq_true.1 this e (by simpa using he)
    simpa [hb] using this
  · intro L a w i o I ho hLi hL
    have hi : i < 17 := by rw [← hsize]; exact (Array.getElem?_eq_some_iff.1 ho).1
    have base : ∀ t v, t < 110 → a0.tmps[t]? = some v → a.eval (.tmp t) = v := fun t v ht hv => eval_tmp ((I.other t (Or.inl ht)).trans hv)
    have at_ : ∀ j v, j < 16 → L j = true → (val30 bf n k bs q fb pb cw bv av B jj x)[j]? = some v → a.eval (.tmp (110 + j)) = v := fun j v hj hLj hv => eval_tmp ((I.slot j hj hLj).trans hv)
    obtain ⟨o6, ho6, _, hd6, _⟩ := is6 k6
    have want : o.guard = some (6, true) → L 6 = true → Region.wanted o (yielded ops a.tmps) = B := fun hg h6 => by
      have hsl : a.tmps[116]? = some (.bool B) := I.slot 6 (by decide) h6
      simp only [Region.wanted, hg, yielded, ho6, hd6, Option.bind_some, hsl]
      cases B <;> rfl
    have wantN : o.guard = none → Region.wanted o (yielded ops a.tmps) = true := fun hg => by simp [Region.wanted, hg]
    have hw16 : i < 16 → (L 12 = false ∧ w = W0.drew) ∨ (L 12 = true ∧ M w) := fun h16 => by
      rcases I.world with ⟨_, hw⟩ | ⟨_, hall, _⟩
      · exact hw
      · rw [hall i h16] at hLi; cases hLi
    have hcell : i < 16 → w.cell? ⟨bs, q, none⟩ = some (.int .u64 (cw : Int)) ∧ w.cell? ⟨fb, 0, none⟩ = some (.string x) := fun h16 => by
      rcases hw16 h16 with ⟨_, rfl⟩ | ⟨_, hM⟩
      · exact hS0
      · exact hS w hM
    have hcases : i = 0 ∨ i = 1 ∨ i = 2 ∨ i = 3 ∨ i = 4 ∨ i = 5 ∨ i = 6 ∨ i = 7 ∨ i = 8 ∨ i = 9 ∨ i = 10 ∨ i = 11 ∨ i = 12 ∨ i = 13 ∨ i = 14 ∨ i = 15 ∨ i = 16 := by omega
    rcases hcases with rfl | rfl | rfl | rfl | rfl | rfl | rfl | rfl | rfl | rfl | rfl | rfl | rfl | rfl | rfl | rfl | rfl
    · obtain ⟨o', ho', g, d, hop⟩ := is0 k0
      rw [ho] at ho'; cases ho'
      refine wpOp_value ho (wantN g) (w' := w) (v := .int .u8 (q : Int)) ?_ ?_
      · simp only [execOp, hop, base 14 _ (by decide) s14]; rfl
      · exact I.put 0 (by decide) (by decide) rfl d
    · obtain ⟨o', ho', g, d, d0, hop⟩ := is1 k1
      rw [ho] at ho'; cases ho'
      have l0 := waits_spec d0 hL
      refine wpOp_value ho (wantN g) (w' := w) (v := .pointer (some ⟨bs, q, none⟩)) ?_ ?_
      · simp only [execOp, hop, base 7 _ (by decide) s7, at_ 0 _ (by decide) l0 rfl, Sem.run_bind, run_idx52 w bs q hq, Result.andThen_ok]; rfl
      · exact I.put 1 (by decide) (by decide) rfl d
    · obtain ⟨o', ho', g, d, d1, hop⟩ := is2 k2
      rw [ho] at ho'; cases ho'
      have l1 := waits_spec d1 hL
      refine wpOp_value ho (wantN g) (w' := w) (v := .int .u64 (cw : Int)) ?_ ?_
      · simp only [execOp, hop, at_ 1 _ (by decide) l1 rfl, Sem.run_bind, run_load30 w _ _ (hcell (by decide)).1, Result.andThen_ok]; rfl
      · exact I.put 2 (by decide) (by decide) rfl d
    · obtain ⟨o', ho', g, d, hop⟩ := is3 k3
      rw [ho] at ho'; cases ho'
      refine wpOp_value ho (wantN g) (w' := w) (v := .int .u64 (bv : Int)) ?_ ?_
      · simp only [execOp, hop, base 15 _ (by decide) s15]; rfl
      · exact I.put 3 (by decide) (by decide) rfl d
    · obtain ⟨o', ho', g, d, d2, d3, hop⟩ := is4 k4
      rw [ho] at ho'; cases ho'
      have l2 := waits_spec d2 hL
      have l3 := waits_spec d3 hL
      refine wpOp_value ho (wantN g) (w' := w) (v := .int .u64 (av : Int)) ?_ ?_
      · simp only [execOp, hop, at_ 2 _ (by decide) l2 rfl, at_ 3 _ (by decide) l3 rfl]; simp [go_sem, hand]
      · exact I.put 4 (by decide) (by decide) rfl d
    · obtain ⟨o', ho', g, d, d4, hop⟩ := is5 k5
      rw [ho] at ho'; cases ho'
      have l4 := waits_spec d4 hL
      refine wpOp_value ho (wantN g) (w' := w) (v := .bool B) ?_ ?_
      · simp only [execOp, hop, at_ 4 _ (by decide) l4 rfl]; simp [go_sem, Act.eval, hB]
      · exact I.put 5 (by decide) (by decide) rfl d
    · obtain ⟨o', ho', g, d, d5, hop⟩ := is6 k6
      rw [ho] at ho'; cases ho'
      have l5 := waits_spec d5 hL
      refine wpOp_value ho (wantN g) (w' := w) (v := .bool B) ?_ ?_
      · simp only [execOp, hop, at_ 5 _ (by decide) l5 rfl]; rfl
      · exact I.put 6 (by decide) (by decide) rfl d
    · obtain ⟨o', ho', g, d, d6, hop⟩ := is7 k7
      rw [ho] at ho'; cases ho'
      have l6 := waits_spec d6 hL
      cases hBc : B with
      | false =>
        rw [hBc] at I
        refine wpOp_not ho ((want g l6).trans hBc) ?_
        exact I.put 7 (by decide) (by decide) rfl d
      | true =>
        rw [hBc] at I at_
        refine wpOp_value ho ((want g l6).trans hBc) (w' := w) (v := .slice (some ⟨bf, 0, none⟩) n n) ?_ ?_
        · simp only [execOp, hop, base 0 _ (by decide) s0]; rfl
        · exact I.put 7 (by decide) (by decide) rfl d
    · obtain ⟨o', ho', g, d, d6, hop⟩ := is8 k8
      rw [ho] at ho'; cases ho'
      have l6 := waits_spec d6 hL
      cases hBc : B with
      | false =>
        rw [hBc] at I
        refine wpOp_not ho ((want g l6).trans hBc) ?_
        exact I.put 8 (by decide) (by decide) rfl d
      | true =>
        rw [hBc] at I at_
        refine wpOp_value ho ((want g l6).trans hBc) (w' := w) (v := .int .i64 (k : Int)) ?_ ?_
        · simp only [execOp, hop, base 8 _ (by decide) s8]; rfl
        · exact I.put 8 (by decide) (by decide) rfl d
    · obtain ⟨o', ho', g, d, d6, d7, d8, hop⟩ := is9 k9
      rw [ho] at ho'; cases ho'
      have l6 := waits_spec d6 hL
      have l7 := waits_spec d7 hL
      have l8 := waits_spec d8 hL
      cases hBc : B with
      | false =>
        rw [hBc] at I
        refine wpOp_not ho ((want g l6).trans hBc) ?_
        exact I.put 9 (by decide) (by decide) rfl d
      | true =>
        rw [hBc] at I at_
        refine wpOp_value ho ((want g l6).trans hBc) (w' := w) (v := .slice (some ⟨bf, 0, none⟩) k n) ?_ ?_
        · have e7 : a.eval (.tmp 117) = .slice (some ⟨bf, 0, none⟩) n n := at_ 7 _ (by decide) l7 rfl
          have e8 : a.eval (.tmp 118) = .int .i64 (k : Int) := at_ 8 _ (by decide) l8 rfl
          simp only [execOp, hop, e7, e8, Option.map_some, Option.map_none, Sem.run_bind, run_slice39 w bf k n hkn, Result.andThen_ok]; rfl
        · exact I.put 9 (by decide) (by decide) rfl d
    · obtain ⟨o', ho', g, d, d6, hop⟩ := is10 k10
      rw [ho] at ho'; cases ho'
      have l6 := waits_spec d6 hL
      cases hBc : B with
      | false =>
        rw [hBc] at I
        refine wpOp_not ho ((want g l6).trans hBc) ?_
        exact I.put 10 (by decide) (by decide) rfl d
      | true =>
        rw [hBc] at I at_
        refine wpOp_value ho ((want g l6).trans hBc) (w' := w) (v := .pointer (some ⟨fb, 0, none⟩)) ?_ ?_
        · simp only [execOp, hop, base 9 _ (by decide) s9, Sem.run_bind, run_field42, Result.andThen_ok]; rfl
        · exact I.put 10 (by decide) (by decide) rfl d
    · obtain ⟨o', ho', g, d, d6, d10, hop⟩ := is11 k11
      rw [ho] at ho'; cases ho'
      have l6 := waits_spec d6 hL
      have l10 := waits_spec d10 hL
      cases hBc : B with
      | false =>
        rw [hBc] at I
        refine wpOp_not ho ((want g l6).trans hBc) ?_
        exact I.put 11 (by decide) (by decide) rfl d
      | true =>
        rw [hBc] at I at_
        refine wpOp_value ho ((want g l6).trans hBc) (w' := w) (v := .string x) ?_ ?_
        · have e10 : a.eval (.tmp 120) = .pointer (some ⟨fb, 0, none⟩) := at_ 10 _ (by decide) l10 rfl
          simp only [execOp, hop, e10, Sem.run_bind, run_load9 w _ _ (hcell (by decide)).2, Result.andThen_ok]; rfl
        · exact I.put 11 (by decide) (by decide) rfl d
    · obtain ⟨o', ho', g, d, d6, d9, d11, hop⟩ := is12 k12
      rw [ho] at ho'; cases ho'
      have l6 := waits_spec d6 hL
      have l9 := waits_spec d9 hL
      have l11 := waits_spec d11 hL
      have fin : ∀ v w', (val30 bf n k bs q fb pb cw bv av B jj x)[12]? = some v → M w' → R30 a0 W0.drew M (val30 bf n k bs q fb pb cw bv av B jj x) pb res (fun j => decide (j = 12) || L j) (a.put o.dst v) w' := fun v w' hv hM => by
        rw [d]
        refine ⟨by rw [put_size]; exact I.size, I.defers, fun j hj hLj => ?_, fun t ht => ?_, Or.inl ⟨?_, Or.inr ⟨rfl, hM⟩⟩⟩
        · by_cases e : j = 12
          · subst e; rw [put_same _ _ _ (by rw [I.size]; omega), hv]
          · rw [put_other _ _ _ _ (by omega)]
            exact I.slot j hj (by simpa [e] using hLj)
        · rw [put_other _ _ _ _ (by omega)]; exact I.other t ht
        · rcases I.world with ⟨h16', _⟩ | ⟨_, hall, _⟩
          · simpa using h16'
          · rw [hall 12 (by decide)] at hLi; cases hLi
      have hw0 : w = W0.drew := by
        rcases hw16 (by decide) with ⟨_, e⟩ | ⟨h12', _⟩
        · exact e
        · rw [h12'] at hLi; cases hLi
      by_cases hBc : B = true
      · subst hw0
        have e9 : a.eval (.tmp 119) = .slice (some ⟨bf, 0, none⟩) k n := at_ 9 _ (by decide) l9 (by rw [hBc]; rfl)
        have e11 : a.eval (.tmp 121) = .string x := at_ 11 _ (by decide) l11 (by rw [hBc]; rfl)
        refine wpOp_enter ho ((want g l6).trans hBc) (f := 17) (args := #[.slice (some ⟨bf, 0, none⟩) k n, .string x]) ?_ (hyes hBc) ?_
        · simp [execOp, hop, resolve, Deferred.ofValue, invoke, e9, e11]
          simp [Act.eval]
        · intro w' hM
          exact fin (.int .i64 jj) w' (by rw [hBc]; rfl) hM
      · have hBf : B = false := by simpa using hBc
        refine wpOp_not ho ((want g l6).trans hBf) ?_
        exact fin undef w (by rw [hBf]; rfl) (by rw [hw0]; exact hno hBf)
    · obtain ⟨o', ho', g, d, d6, d12, hop⟩ := is13 k13
      rw [ho] at ho'; cases ho'
      have l6 := waits_spec d6 hL
      have l12 := waits_spec d12 hL
      cases hBc : B with
      | false =>
        rw [hBc] at I
        refine wpOp_not ho ((want g l6).trans hBc) ?_
        exact I.put 13 (by decide) (by decide) rfl d
      | true =>
        rw [hBc] at I at_
        refine wpOp_value ho ((want g l6).trans hBc) (w' := w) (v := .bool (decide (0 ≤ jj))) ?_ ?_
        · have e12 : a.eval (.tmp 122) = .int .i64 jj := at_ 12 _ (by decide) l12 rfl
          simp only [execOp, hop, e12]; simp [go_sem, Act.eval]
        · exact I.put 13 (by decide) (by decide) rfl d
    · obtain ⟨o', ho', g, d, d6, d13, hop⟩ := is14 k14
      rw [ho] at ho'; cases ho'
      have l6 := waits_spec d6 hL
      have l13 := waits_spec d13 hL
      refine wpOp_value ho (wantN g) (w' := w) (v := .bool (B && decide (0 ≤ jj))) ?_ ?_
      · have e6 : a.eval (.tmp 116) = .bool B := at_ 6 _ (by decide) l6 rfl
        cases hBc : B with
        | false =>
          rw [hBc] at e6
          simp only [execOp, hop, e6]
          simp [go_sem, Act.eval]
        | true =>
          rw [hBc] at e6
          have e13 : a.eval (.tmp 123) = .bool (decide (0 ≤ jj)) := at_ 13 _ (by decide) l13 (by rw [hBc]; rfl)
          simp only [execOp, hop, e6, e13]
          simp [go_sem]
      · exact I.put 14 (by decide) (by decide) rfl d
    · obtain ⟨o', ho', g, d, hop⟩ := is15 k15
      rw [ho] at ho'; cases ho'
      refine wpOp_value ho (wantN g) (w' := w) (v := .pointer (some ⟨pb, 13, none⟩)) ?_ ?_
      · simp only [execOp, hop, base 3 _ (by decide) s3, Sem.run_bind, run_field46, Result.andThen_ok]; rfl
      · exact I.put 15 (by decide) (by decide) rfl d
    · obtain ⟨o', ho', g, d, d0, d1, d2, d3, d4, d5, d6, d7, d8, d9, d10, d11, d12, d13, d14, d15, hop⟩ := is16 k16
      rw [ho] at ho'; cases ho'
      have l12 := waits_spec d12 hL
      have l14 := waits_spec d14 hL
      have l15 := waits_spec d15 hL
      have hall16 : ∀ j, j < 16 → (decide (j = 16) || L j) = true := fun j hj => by
        have : j = 0 ∨ j = 1 ∨ j = 2 ∨ j = 3 ∨ j = 4 ∨ j = 5 ∨ j = 6 ∨ j = 7 ∨ j = 8 ∨ j = 9 ∨ j = 10 ∨ j = 11 ∨ j = 12 ∨ j = 13 ∨ j = 14 ∨ j = 15 := by omega
        rcases this with rfl | rfl | rfl | rfl | rfl | rfl | rfl | rfl | rfl | rfl | rfl | rfl | rfl | rfl | rfl | rfl
        · rw [waits_spec d0 hL]; rfl
        · rw [waits_spec d1 hL]; rfl
        · rw [waits_spec d2 hL]; rfl
        · rw [waits_spec d3 hL]; rfl
        · rw [waits_spec d4 hL]; rfl
        · rw [waits_spec d5 hL]; rfl
        · rw [waits_spec d6 hL]; rfl
        · rw [waits_spec d7 hL]; rfl
        · rw [waits_spec d8 hL]; rfl
        · rw [waits_spec d9 hL]; rfl
        · rw [waits_spec d10 hL]; rfl
        · rw [waits_spec d11 hL]; rfl
        · rw [waits_spec d12 hL]; rfl
        · rw [waits_spec d13 hL]; rfl
        · rw [waits_spec d14 hL]; rfl
        · rw [waits_spec d15 hL]; rfl
      rcases I.world with ⟨_, ⟨h12', _⟩ | ⟨_, hM⟩⟩ | ⟨h16', _⟩
      · rw [h12'] at l12; cases l12
      · obtain ⟨⟨u, hu⟩, hf⟩ := h13 w hM
        refine wpOp_skip ho (wantN g) (w' := w.setCell ⟨pb, 13, none⟩ (.bool res)) ?_ ?_
        · have e15 : a.eval (.tmp 125) = .pointer (some ⟨pb, 13, none⟩) := at_ 15 _ (by decide) l15 rfl
          have e14 : a.eval (.tmp 124) = .bool res := (at_ 14 _ (by decide) l14 rfl).trans (by rw [hres])
          simp only [execOp, hop, e15, e14, Sem.run_bind, run_store4 w _ u res hu hf, Result.andThen_ok]; rfl
        · rw [d]
          refine ⟨I.size, I.defers, fun j hj hLj => I.slot j hj ?_, I.other, Or.inr ⟨by simp, hall16, w, hM, rfl⟩⟩
          have : ¬ j = 16 := by omega
          simpa [this] using hLj
      · rw [h16'] at hLi; cases hLi
  · intro L a w I hall
    have hL16 := hall 16 (by omega)
    rcases I.world with ⟨h16, _⟩ | ⟨_, _, w2, hM, rfl⟩
    · rw [h16] at hL16; cases hL16
    · have ha : a = putFrom a0 110 (val30 bf n k bs q fb pb cw bv av B jj x) := by
        have htm : a.tmps = (putFrom a0 110 (val30 bf n k bs q fb pb cw bv av B jj x)).tmps := by
          apply Array.ext_getElem?
          intro t
          have hlen : (val30 bf n k bs q fb pb cw bv av B jj x).length = 16 := rfl
          rw [putFrom_get _ _ _ _ (by rw [hlen, hs]; decide), hlen]
          by_cases ht : 110 ≤ t ∧ t < 110 + 16
          · rw [if_pos ht]
            obtain ⟨d, rfl⟩ : ∃ d, t = 110 + d := ⟨t - 110, by omega⟩
            rw [I.slot d (by omega) (hall d (by omega)), show 110 + d - 110 = d by omega]
          · rw [if_neg ht]; exact I.other t (by omega)
        have hdf : a.defers = (putFrom a0 110 (val30 bf n k bs q fb pb cw bv av B jj x)).defers := by rw [putFrom_defers, I.defers, hd]
        cases a
        simp only at htm hdf
        rw [htm, hdf]
      rw [ha]
      exact h _ _ _ _ _ _ _ _ _ _ _ _ _ _ _ _ w2 hM
end Go.Proofs.YbulkbrpsDoor
