/-
  elements.Builtin: a new map that holds the table's 35 rows, and nothing else. ITS LITERAL IS ONE REGION THAT DRAWS ITS ORDER: the rows may be laid in any order: the entries are the rows in SOME order ('Full').
-/
import Derived.Test.YbulkbrpsMap
import Derived.Test.YbulkbrpsRegion
import Derived.Great.BuildSlice
namespace Go.Proofs.Ybulkbrps
open Go Go.RowKit

theorem eval_tmp {a : Act} {t : Nat} {v : Value} (h : a.tmps[t]? = some v) : a.eval (.tmp t) = v := by
  simp [Act.eval, h]
theorem put_size (a : Act) (d : Nat) (v : Value) : (a.put (some d) v).tmps.size = a.tmps.size := by simp [Act.put]
theorem put_same (a : Act) (d : Nat) (v : Value) (h : d < a.tmps.size) : (a.put (some d) v).tmps[d]? = some v := by simp [Act.put, h]
theorem put_other (a : Act) (d t : Nat) (v : Value) (h : d ≠ t) : (a.put (some d) v).tmps[t]? = a.tmps[t]? := by
  simp [Act.put, h]

theorem wpOp_value {P : Program} {ops : Array Oper} {Q : Exit → Act → World → Prop} {K : Act → World → Prop} {i : Nat} {o : Oper} {a : Act} {w w' : World} {v : Value} (ho : ops[i]? = some o) (hg : o.guard = none)
    (hrun : (execOp a.eval o).run P w = .ok (.value v) w') (h : K (a.put o.dst v) w') : wpOp P ops Q i K a w := by
  unfold wpOp
  simp only [ho, Region.wanted, hg, if_true, Oper.wp, hrun, Oper.upon]
  exact .inl h
theorem wpOp_skip {P : Program} {ops : Array Oper} {Q : Exit → Act → World → Prop} {K : Act → World → Prop} {i : Nat} {o : Oper} {a : Act} {w w' : World} (ho : ops[i]? = some o) (hg : o.guard = none)
    (hrun : (execOp a.eval o).run P w = .ok .skip w') (h : K (a.put o.dst undef) w') : wpOp P ops Q i K a w := by
  unfold wpOp
  simp only [ho, Region.wanted, hg, if_true, Oper.wp, hrun, Oper.upon]
  exact .inl h

/-! ### what the literal's operations are: closed looks, for the kernel -/
def waits (o : Oper) (i : Nat) : Bool := o.after.toList.any fun e => Region.binds .any e && e.on == i
def chkKey (ops : Array Oper) (k : Nat) : Bool := match ops[3 * k + 1]? with
  | some o => o.guard.isNone && o.dst == some (2 * k + 2) && (match o.op with
    | .build 32 ⟨[(0, .const (.int .u32 x)), (1, .const (.int .u16 y))]⟩ => x == ent k && y == el k
    | _ => false)
  | _ => false
def chkVal (ops : Array Oper) (k : Nat) : Bool := match ops[3 * k + 2]? with
  | some o => o.guard.isNone && o.dst == some (2 * k + 3) && (match o.op with
    | .build 29 ⟨[(0, .const (.string x)), (1, .const (.string y))]⟩ => decide (x = name k) && decide (y = typ k)
    | _ => false)
  | _ => false
def chkIns (ops : Array Oper) (k : Nat) : Bool := match ops[3 * k + 3]? with
  | some o => o.guard.isNone && o.dst == none && waits o 0 && waits o (3 * k + 1) && waits o (3 * k + 2) && (match o.op with
    | .insert 25 (.tmp 1) (.tmp x) (.tmp y) => x == 2 * k + 2 && y == 2 * k + 3
    | _ => false)
  | _ => false
def chkBack (ops : Array Oper) (i : Nat) : Bool := match ops[i]? with
  | some o => o.after.toList.all fun e => !Region.binds .any e || decide (e.on < i)
  | _ => false
def chkFirst (ops : Array Oper) : Bool := match ops[0]? with
  | some o => o.guard.isNone && o.dst == some 1 && (match o.op with
    | .makeMap 25 none => true
    | _ => false)
  | _ => false
def chkMid (ops : Array Oper) : Bool := match ops[106]? with
  | some o => o.guard.isNone && o.dst == some 72 && waits o 0 && (match o.op with
    | .move (.tmp 1) => true
    | _ => false)
  | _ => false
def chkLast (ops : Array Oper) : Bool := match ops[107]? with
  | some o => o.guard.isNone && o.dst == some 0 && waits o 106 && (match o.op with
    | .assign (.tmp 72) => true
    | _ => false)
  | _ => false

theorem waits_spec {o : Oper} {i : Nat} {L : Nat → Bool} (h : waits o i = true) (hL : ∀ e ∈ o.after, Region.binds .any e = true → L e.on = true) : L i = true := by
  unfold waits at h
  obtain ⟨e, he, h1⟩ := List.any_eq_true.1 h
  simp only [Bool.and_eq_true, beq_iff_eq] at h1
  have := hL e (by simpa using he) h1.1
  rw [h1.2] at this
  exact this

theorem built32 (x y : Int) : Yba.prog.built 32 [(0, .int .u32 x), (1, .int .u16 y)] = some #[.int .u32 x, .int .u16 y] := by kernel_rfl
theorem built29 (x y : ByteArray) : Yba.prog.built 29 [(0, .string x), (1, .string y)] = some #[.string x, .string y] := by kernel_rfl

theorem key_run {ops : Array Oper} {k : Nat} (h : chkKey ops k = true) : ∃ o, ops[3 * k + 1]? = some o ∧ o.guard = none ∧ o.dst = some (2 * k + 2) ∧ ∀ (a : Act) (w : World), (execOp a.eval o).run Yba.prog w = .ok (.value (keyV (ent k) (el k))) w := by
  unfold chkKey at h
  split at h
  · rename_i o ho
    simp only [Bool.and_eq_true, beq_iff_eq, Option.isNone_iff_eq_none] at h
    obtain ⟨⟨h1, h2⟩, h3⟩ := h
    split at h3
    · rename_i x y hop
      simp only [Bool.and_eq_true, beq_iff_eq] at h3
      obtain ⟨rfl, rfl⟩ := h3
      refine ⟨o, ho, h1, h2, fun a w => ?_⟩
      simp only [execOp, hop, Sem.run_bind]
      rw [run_build (P := Yba.prog) w 32 _ #[.int .u32 (ent k), .int .u16 (el k)] (by simpa [Act.eval] using built32 _ _)]
      rfl
    · cases h3
  · cases h

theorem val_run {ops : Array Oper} {k : Nat} (h : chkVal ops k = true) : ∃ o, ops[3 * k + 2]? = some o ∧ o.guard = none ∧ o.dst = some (2 * k + 3) ∧ ∀ (a : Act) (w : World), (execOp a.eval o).run Yba.prog w = .ok (.value (valV k)) w := by
  unfold chkVal at h
  split at h
  · rename_i o ho
    simp only [Bool.and_eq_true, beq_iff_eq, Option.isNone_iff_eq_none] at h
    obtain ⟨⟨h1, h2⟩, h3⟩ := h
    split at h3
    · rename_i x y hop
      simp only [Bool.and_eq_true, decide_eq_true_eq] at h3
      obtain ⟨rfl, rfl⟩ := h3
      refine ⟨o, ho, h1, h2, fun a w => ?_⟩
      simp only [execOp, hop, Sem.run_bind]
      rw [run_build (P := Yba.prog) w 29 _ #[.string (name k), .string (typ k)] (by simpa [Act.eval] using built29 _ _)]
      rfl
    · cases h3
  · cases h

theorem ins_run {ops : Array Oper} {k : Nat} (h : chkIns ops k = true) : ∃ o, ops[3 * k + 3]? = some o ∧ o.guard = none ∧ o.dst = none ∧ waits o 0 = true ∧ waits o (3 * k + 1) = true ∧ waits o (3 * k + 2) = true ∧ o.op = .insert 25 (.tmp 1) (.tmp (2 * k + 2)) (.tmp (2 * k + 3)) := by
  unfold chkIns at h
  split at h
  · rename_i o ho
    simp only [Bool.and_eq_true, beq_iff_eq, Option.isNone_iff_eq_none] at h
    obtain ⟨⟨⟨⟨⟨h1, h2⟩, h3⟩, h4⟩, h5⟩, h6⟩ := h
    split at h6
    · rename_i x y hop
      simp only [Bool.and_eq_true, beq_iff_eq] at h6
      obtain ⟨rfl, rfl⟩ := h6
      exact ⟨o, ho, h1, h2, h3, h4, h5, hop⟩
    · cases h6
  · cases h

theorem first_run {ops : Array Oper} (h : chkFirst ops = true) : ∃ o, ops[0]? = some o ∧ o.guard = none ∧ o.dst = some 1 ∧ ∀ (a : Act) (w : World), (execOp a.eval o).run Yba.prog w = .ok (.value (.map (some w.heap.size))) (w.alloc (.map #[] 0)) := by
  unfold chkFirst at h
  split at h
  · rename_i o ho
    simp only [Bool.and_eq_true, beq_iff_eq, Option.isNone_iff_eq_none] at h
    obtain ⟨⟨h1, h2⟩, h3⟩ := h
    split at h3
    · rename_i hop
      exact ⟨o, ho, h1, h2, fun a w => by simp only [execOp, hop]; rfl⟩
    · cases h3
  · cases h

theorem mid_run {ops : Array Oper} (h : chkMid ops = true) : ∃ o, ops[106]? = some o ∧ o.guard = none ∧ o.dst = some 72 ∧ waits o 0 = true ∧ ∀ (a : Act) (w : World), (execOp a.eval o).run Yba.prog w = .ok (.value (a.eval (.tmp 1))) w := by
  unfold chkMid at h
  split at h
  · rename_i o ho
    simp only [Bool.and_eq_true, beq_iff_eq, Option.isNone_iff_eq_none] at h
    obtain ⟨⟨⟨h1, h2⟩, h3⟩, h4⟩ := h
    split at h4
    · rename_i hop
      exact ⟨o, ho, h1, h2, h3, fun a w => by simp only [execOp, hop]; rfl⟩
    · cases h4
  · cases h

theorem last_run {ops : Array Oper} (h : chkLast ops = true) : ∃ o, ops[107]? = some o ∧ o.guard = none ∧ o.dst = some 0 ∧ waits o 106 = true ∧ ∀ (a : Act) (w : World), (execOp a.eval o).run Yba.prog w = .ok (.value (a.eval (.tmp 72))) w := by
  unfold chkLast at h
  split at h
  · rename_i o ho
    simp only [Bool.and_eq_true, beq_iff_eq, Option.isNone_iff_eq_none] at h
    obtain ⟨⟨⟨h1, h2⟩, h3⟩, h4⟩ := h
    split at h4
    · rename_i hop
      exact ⟨o, ho, h1, h2, h3, fun a w => by simp only [execOp, hop]; rfl⟩
    · cases h4
  · cases h

/-! ### the invariant -/
/-- Behind the operations that have come up ('L'), begun in the world w0. -/
structure Laying (w0 : World) (L : Nat → Bool) (a : Act) (w : World) : Prop where
  size : a.tmps.size = 73
  defers : a.defers = []
  keys : ∀ k, k < 35 → L (3 * k + 1) = true → a.tmps[2 * k + 2]? = some (keyV (ent k) (el k))
  vals : ∀ k, k < 35 → L (3 * k + 2) = true → a.tmps[2 * k + 3]? = some (valV k)
  mid : L 106 = true → a.tmps[72]? = some (.map (some w0.heap.size))
  res : L 107 = true → a.tmps[0]? = some (.map (some w0.heap.size))
  world : (L 0 = false ∧ w = w0 ∧ ∀ k, k < 35 → L (3 * k + 3) = false) ∨
    (L 0 = true ∧ a.tmps[1]? = some (.map (some w0.heap.size)) ∧ ∃ es c l, w = w0.alloc (.map es c) ∧ RowsAre es l ∧ l.Nodup ∧ ∀ k, k ∈ l ↔ (k < 35 ∧ L (3 * k + 3) = true))

theorem or_L {L : Nat → Bool} {i j : Nat} (h : (decide (j = i) || L j) = true) : j = i ∨ L j = true := by
  simpa using h

theorem builtin_region {ops : Array Oper} {Q : Exit → Act → World → Prop} {id : Nat} {a : Act} {w : World} (hm : Yba.prog.follows .mixedOrders = true) (hsize : ops.size = 108)
    (hchk : ((List.range 35).all fun k => chkKey ops k && chkVal ops k && chkIns ops k) = true) (hback : ((List.range 108).all (chkBack ops)) = true) (hfirst : chkFirst ops = true) (hmid : chkMid ops = true) (hlast : chkLast ops = true)
    (hs : a.tmps.size = 73) (hd : a.defers = [])
    (h : ∀ (a' : Act) (es : Array MapEntry) (c : Nat), a'.defers = [] → a'.tmps[0]? = some (.map (some w.heap.size)) → Full es → Q .normal a' (w.drew.alloc (.map es c))) :
    (Code.region id ops true).wp Yba.prog Q a w := by
  have hk : ∀ k, k < 35 → chkKey ops k = true ∧ chkVal ops k = true ∧ chkIns ops k = true := fun k hk => by
    have := List.all_eq_true.1 hchk k (List.mem_range.2 hk)
    simp only [Bool.and_eq_true] at this
    exact ⟨this.1.1, this.1.2, this.2⟩
  refine wp_region_inv hm (Laying w.drew) ?_ ⟨hs, hd, by simp, by simp, by simp, by simp, Or.inl ⟨rfl, rfl, by simp⟩⟩ ?_ ?_
  · intro i o ho e he hb
    have hi : i < 108 := by rw [← hsize]; exact (Array.getElem?_eq_some_iff.1 ho).1
    have := List.all_eq_true.1 hback i (List.mem_range.2 hi)
    unfold chkBack at this
    rw [ho] at this
    have := List.all_eq_true.1 this e (by simpa using he)
    simpa [hb] using this
  · intro L a w1 i o I ho hLi hL
    have hi : i < 108 := by rw [← hsize]; exact (Array.getElem?_eq_some_iff.1 ho).1
    have hcases : i = 0 ∨ i = 106 ∨ i = 107 ∨ (∃ k, k < 35 ∧ i = 3 * k + 1) ∨ (∃ k, k < 35 ∧ i = 3 * k + 2) ∨ ∃ k, k < 35 ∧ i = 3 * k + 3 ∧ i ≠ 106 ∧ i ≠ 107 := by
      by_cases h0 : i = 0
      · exact Or.inl h0
      by_cases h1 : i = 106
      · exact Or.inr (Or.inl h1)
      by_cases h1' : i = 107
      · exact Or.inr (Or.inr (Or.inl h1'))
      have h2 : i % 3 = 1 ∨ i % 3 = 2 ∨ i % 3 = 0 := by omega
      rcases h2 with h2 | h2 | h2
      · exact Or.inr (Or.inr (Or.inr (Or.inl ⟨i / 3, by omega, by omega⟩)))
      · exact Or.inr (Or.inr (Or.inr (Or.inr (Or.inl ⟨i / 3, by omega, by omega⟩))))
      · exact Or.inr (Or.inr (Or.inr (Or.inr (Or.inr ⟨i / 3 - 1, by omega, by omega, h1, h1'⟩))))
    rcases hcases with rfl | rfl | rfl | ⟨k, hk35, rfl⟩ | ⟨k, hk35, rfl⟩ | ⟨k, hk35, rfl, hne, hne'⟩
    · -- the map is made
      obtain ⟨o', ho', g, d, hrun⟩ := first_run hfirst
      rw [ho] at ho'; cases ho'
      rcases I.world with ⟨_, rfl, hno⟩ | ⟨h1, _⟩
      · refine wpOp_value ho g (hrun a _) ?_
        rw [d]
        refine ⟨by rw [put_size]; exact I.size, I.defers, fun j hj hh => ?_, fun j hj hh => ?_, fun hh => ?_, fun hh => ?_, Or.inr ⟨rfl, put_same _ _ _ (by rw [I.size]; omega), #[], 0, [], rfl, rowsAre_nil, List.nodup_nil, fun j => ?_⟩⟩
        · rw [put_other _ _ _ _ (by omega)]
          exact I.keys j hj (by rcases or_L hh with h | h; · omega
                                · exact h)
        · rw [put_other _ _ _ _ (by omega)]
          exact I.vals j hj (by rcases or_L hh with h | h; · omega
                                · exact h)
        · rw [put_other _ _ _ _ (by omega)]
          exact I.mid (by simpa using hh)
        · rw [put_other _ _ _ _ (by omega)]
          exact I.res (by simpa using hh)
        · simp only [List.not_mem_nil, false_iff]
          rintro ⟨hj, hh⟩
          rcases or_L hh with h | h
          · omega
          · rw [hno j hj] at h; cases h
      · rw [h1] at hLi; cases hLi
    · -- it is carried on
      obtain ⟨o', ho', g, d, hw, hrun⟩ := mid_run hmid
      rw [ho] at ho'; cases ho'
      have hL0 := waits_spec hw hL
      rcases I.world with ⟨h1, _⟩ | ⟨h1, h2, es, c, l, rfl, h3, h4, h5⟩
      · rw [h1] at hL0; cases hL0
      · refine wpOp_value ho g (hrun a _) ?_
        rw [d, eval_tmp h2]
        refine ⟨by rw [put_size]; exact I.size, I.defers, fun j hj hh => ?_, fun j hj hh => ?_, fun hh => put_same _ _ _ (by rw [I.size]; omega), fun hh => by rw [put_other _ _ _ _ (by omega)]; exact I.res (by simpa using hh), Or.inr ⟨by simp [h1], by rw [put_other _ _ _ _ (by omega)]; exact h2, es, c, l, rfl, h3, h4, fun j => ?_⟩⟩
        · rw [put_other _ _ _ _ (by omega)]
          exact I.keys j hj (by rcases or_L hh with h | h; · omega
                                · exact h)
        · rw [put_other _ _ _ _ (by omega)]
          exact I.vals j hj (by rcases or_L hh with h | h; · omega
                                · exact h)
        · rw [h5 j]
          by_cases hj : 3 * j + 3 = 106
          · omega
          · simp [hj]
    · -- it is handed back
      obtain ⟨o', ho', g, d, hw, hrun⟩ := last_run hlast
      rw [ho] at ho'; cases ho'
      have hL1 := waits_spec hw hL
      have h72 := I.mid hL1
      refine wpOp_value ho g (hrun a _) ?_
      rw [d, eval_tmp h72]
      refine ⟨by rw [put_size]; exact I.size, I.defers, fun j hj hh => ?_, fun j hj hh => ?_, fun hh => by rw [put_other _ _ _ _ (by omega)]; exact h72, fun hh => put_same _ _ _ (by rw [I.size]; omega), ?_⟩
      · rw [put_other _ _ _ _ (by omega)]
        exact I.keys j hj (by rcases or_L hh with h | h; · omega
                              · exact h)
      · rw [put_other _ _ _ _ (by omega)]
        exact I.vals j hj (by rcases or_L hh with h | h; · omega
                              · exact h)
      · rcases I.world with ⟨h1, h2, h3⟩ | ⟨h1, h2, es, c, l, h6, h3, h4, h5⟩
        · exact Or.inl ⟨by simp [h1], h2, fun j hj => by have := h3 j hj; simp [this]; omega⟩
        · refine Or.inr ⟨by simp [h1], by rw [put_other _ _ _ _ (by omega)]; exact h2, es, c, l, h6, h3, h4, fun j => ?_⟩
          rw [h5 j]
          by_cases hj : 3 * j + 3 = 107
          · omega
          · simp [hj]
    · -- a key
      obtain ⟨o', ho', g, d, hrun⟩ := key_run (hk k hk35).1
      rw [ho] at ho'; cases ho'
      refine wpOp_value ho g (hrun a _) ?_
      rw [d]
      refine ⟨by rw [put_size]; exact I.size, I.defers, fun j hj hh => ?_, fun j hj hh => ?_, fun hh => ?_, fun hh => ?_, ?_⟩
      · by_cases hjk : j = k
        · subst hjk; exact put_same _ _ _ (by rw [I.size]; omega)
        · rw [put_other _ _ _ _ (by omega)]
          exact I.keys j hj (by rcases or_L hh with h | h; · omega
                                · exact h)
      · rw [put_other _ _ _ _ (by omega)]
        exact I.vals j hj (by rcases or_L hh with h | h; · omega
                              · exact h)
      · rw [put_other _ _ _ _ (by omega)]
        exact I.mid (by rcases or_L hh with h | h; · omega
                        · exact h)
      · rw [put_other _ _ _ _ (by omega)]
        exact I.res (by rcases or_L hh with h | h; · omega
                        · exact h)
      · rcases I.world with ⟨h1, h2, h3⟩ | ⟨h1, h2, es, c, l, h6, h3, h4, h5⟩
        · exact Or.inl ⟨by simp [h1], h2, fun j hj => by have := h3 j hj; simp [this]; omega⟩
        · refine Or.inr ⟨by simp [h1], by rw [put_other _ _ _ _ (by omega)]; exact h2, es, c, l, h6, h3, h4, fun j => ?_⟩
          rw [h5 j]
          have : ¬ 3 * j + 3 = 3 * k + 1 := by omega
          simp [this]
    · -- an element
      obtain ⟨o', ho', g, d, hrun⟩ := val_run (hk k hk35).2.1
      rw [ho] at ho'; cases ho'
      refine wpOp_value ho g (hrun a _) ?_
      rw [d]
      refine ⟨by rw [put_size]; exact I.size, I.defers, fun j hj hh => ?_, fun j hj hh => ?_, fun hh => ?_, fun hh => ?_, ?_⟩
      · rw [put_other _ _ _ _ (by omega)]
        exact I.keys j hj (by rcases or_L hh with h | h; · omega
                              · exact h)
      · by_cases hjk : j = k
        · subst hjk; exact put_same _ _ _ (by rw [I.size]; omega)
        · rw [put_other _ _ _ _ (by omega)]
          exact I.vals j hj (by rcases or_L hh with h | h; · omega
                                · exact h)
      · rw [put_other _ _ _ _ (by omega)]
        exact I.mid (by rcases or_L hh with h | h; · omega
                        · exact h)
      · rw [put_other _ _ _ _ (by omega)]
        exact I.res (by rcases or_L hh with h | h; · omega
                        · exact h)
      · rcases I.world with ⟨h1, h2, h3⟩ | ⟨h1, h2, es, c, l, h6, h3, h4, h5⟩
        · exact Or.inl ⟨by simp [h1], h2, fun j hj => by have := h3 j hj; simp [this]; omega⟩
        · refine Or.inr ⟨by simp [h1], by rw [put_other _ _ _ _ (by omega)]; exact h2, es, c, l, h6, h3, h4, fun j => ?_⟩
          rw [h5 j]
          have : ¬ 3 * j + 3 = 3 * k + 2 := by omega
          simp [this]
    · -- an entry
      obtain ⟨o', ho', g, d, w1', w2', w3', hop⟩ := ins_run (hk k hk35).2.2
      rw [ho] at ho'; cases ho'
      have hL0 := waits_spec w1' hL
      have hL1 := waits_spec w2' hL
      have hL2 := waits_spec w3' hL
      rcases I.world with ⟨h1, _⟩ | ⟨h1, h2, es, c, l, rfl, h3, h4, h5⟩
      · rw [h1] at hL0; cases hL0
      have hnot : k ∉ l := fun hh => by
        have := ((h5 k).1 hh).2
        rw [hLi] at this; cases this
      have hrun := run_insert w.drew (c := c) h3 (fun j hj => ((h5 j).1 hj).1) k hk35 hnot
      refine wpOp_skip (w' := w.drew.alloc (.map (es.push { key := keyV (ent k) (el k), val := valV k, born := c }) (c + 1))) ho g ?_ ?_
      · simp only [execOp, hop, eval_tmp h2, eval_tmp (I.keys k hk35 hL1), eval_tmp (I.vals k hk35 hL2), Sem.run_bind, hrun, Result.andThen_ok]
        rfl
      · rw [d]
        refine ⟨I.size, I.defers, fun j hj hh => ?_, fun j hj hh => ?_, fun hh => ?_, fun hh => ?_, Or.inr ⟨by simp [h1], h2, _, _, l ++ [k], rfl, h3.push k c, ?_, fun j => ?_⟩⟩
        · exact I.keys j hj (by rcases or_L hh with h | h; · omega
                                · exact h)
        · exact I.vals j hj (by rcases or_L hh with h | h; · omega
                                · exact h)
        · exact I.mid (by rcases or_L hh with h | h; · exact absurd h.symm hne
                          · exact h)
        · exact I.res (by rcases or_L hh with h | h; · exact absurd h.symm hne'
                          · exact h)
        · rw [List.nodup_append]
          exact ⟨h4, by simp, fun x hx y hy e => by simp at hy; subst hy; subst e; exact hnot hx⟩
        · rw [List.mem_append, h5 j, List.mem_singleton]
          by_cases hjk : j = k
          · subst hjk; simp [hk35]
          · have : ¬ 3 * j = 3 * k := by omega
            simp [this, hjk]
  · intro L a w1 I hall
    rcases I.world with ⟨h1, _⟩ | ⟨h1, h2, es, c, l, rfl, h3, h4, h5⟩
    · have := hall 0 (by omega)
      rw [h1] at this; cases this
    · refine h a es c I.defers (I.res (hall 107 (by omega))) ⟨l, h3, h4, fun k => ?_⟩
      rw [h5 k]
      exact ⟨fun hh => hh.1, fun hh => ⟨hh, hall _ (by omega)⟩⟩

set_option maxHeartbeats 1000000 in
theorem builtin_any (w : World) :
    Calls Yba.prog 6 #[] w fun e w' => e = .returned (.map (some w.heap.size)) ∧ ∃ es c, Full es ∧ w' = w.drew.alloc (.map es c) := by
  go_enter Yba.func6, Yba.ntmps6
  go_wp2
  refine builtin_region (by kernel_rfl) (by kernel_rfl) (by kernel_rfl) (by kernel_rfl) (by kernel_rfl) (by kernel_rfl) (by kernel_rfl) (by kernel_rfl) rfl ?_
  intro a es c hd h0 hF
  rename_i Q' K hK
  refine hK _ _ (wp_ret ?_)
  exact bodyPost_ret (v := .map (some w.heap.size)) (by simp [results, Yba.results6, h0]) hd ⟨rfl, es, c, hF, rfl⟩
end Go.Proofs.Ybulkbrps
