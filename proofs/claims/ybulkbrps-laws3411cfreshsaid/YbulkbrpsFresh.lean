/-
  THE WALK OF LawS3411CFresh: writing into one map leaves the next call's as the table says.
-/
import Derived.Test.YbulkbrpsLookup
import Derived.Maps.OwnSet
namespace Go.Proofs.Ybulkbrps
open Go Go.RowKit

theorem below_setBlock {B : Nat} {a w : World} (h : Below B a w) {b : Nat} (hb : B ≤ b) (o : Obj) : Below B a ({ w with heap := w.heap.setIfInBounds b o } : World) :=
  h.trans ⟨rfl, rfl, rfl, by simp, fun k hk => by
    show (w.heap.setIfInBounds b o)[k]? = _
    rw [Array.getElem?_setIfInBounds_ne (by omega)]⟩

/-- Block b, which was a map, is another map now; nothing else has turned. -/
structure Turned (w w' : World) (b : Nat) (es : Array MapEntry) (c : Nat) : Prop where
  at_ : w'.heap[b]? = some (.map es c)
  size : w'.heap.size = w.heap.size
  below : ∀ {B : Nat} {a : World}, B ≤ b → Below B a w → Below B a w'

theorem turned_of {w : World} {b : Nat} {es : Array MapEntry} {c : Nat} (hb : w.heap[b]? = some (.map es c)) (es' : Array MapEntry) (c' : Nat) : Turned w { w with heap := w.heap.setIfInBounds b (.map es' c') } b es' c' where
  at_ := by
    have hlt : b < w.heap.size := (Array.getElem?_eq_some_iff.1 hb).1
    simp [hlt]
  size := by simp
  below := fun hB h => below_setBlock h hB _

/-- A store into a map whose keys are pairs. -/
theorem store_any (w : World) (b : Nat) {es : Array MapEntry} {c : Nat} (hb : w.heap[b]? = some (.map es c)) (hp : Pairs es) (x y : Int) (v : Value) :
    ∃ w' es' c', (Instr.mapUpdate 25 (.map (some b)) (keyV x y) v).run Yba.prog w = .ok () w' ∧ Turned w w' b es' c' ∧ Pairs es' := by
  have hg := MapKept.run_getObj_map (P := Yba.prog) hb
  have hs := fun o => MapKept.run_setObj_map (P := Yba.prog) o hb
  rcases find_any w x y es.toList hp with ⟨h1, _⟩ | ⟨j, e, h1, h2, h3⟩
  · refine ⟨_, es.push { key := keyV x y, val := v, born := c }, c + 1, ?_, turned_of hb _ _, ?_⟩
    · simp [Instr.mapUpdate, run_underlying Yba.underlying25, hg, check_key, h1, hs]
    · intro e he
      simp at he
      rcases he with he | rfl
      · exact hp e (by simpa using he)
      · exact ⟨_, _, rfl⟩
  · have hst : (Instr.keyThatStays (keyV x y) (keyV x y)).run Yba.prog w = .ok (keyV x y) w := by
      simp [Instr.keyThatStays, Instr.sameBits]
    have hj : es[j]? = some e := by simpa using h2
    refine ⟨_, es.modify j fun e => { e with key := keyV x y, val := v }, c, ?_, turned_of hb _ _, ?_⟩
    · simp [Instr.mapUpdate, run_underlying Yba.underlying25, hg, check_key, h1, hs, hj, h3, hst]
    · intro e' he'
      obtain ⟨i, hi, rfl⟩ := List.getElem_of_mem he'
      simp only [Array.getElem_toList, Array.getElem_modify]
      split
      · exact ⟨_, _, rfl⟩
      · exact hp _ (by simp)

/-- A deletion from a map whose keys are pairs. -/
theorem delete_any (w : World) (b : Nat) {es : Array MapEntry} {c : Nat} (hb : w.heap[b]? = some (.map es c)) (hp : Pairs es) (x y : Int) :
    ∃ w' es' c', (∀ ty, (Builtin.delete_ #[25, 32] ty #[.map (some b), keyV x y]).run Yba.prog w = .ok (.tuple #[]) w') ∧ Turned w w' b es' c' := by
  have hg := MapKept.run_getObj_map (P := Yba.prog) hb
  have hs := fun o => MapKept.run_setObj_map (P := Yba.prog) o hb
  rcases find_any w x y es.toList hp with ⟨h1, _⟩ | ⟨j, e, h1, h2, h3⟩
  · exact ⟨_, es, c, fun ty => by simp [Builtin.delete_, run_underlying Yba.underlying25, hg, check_key, h1, hs], turned_of hb _ _⟩
  · exact ⟨_, es.eraseIdxIfInBounds j, c, fun ty => by simp [Builtin.delete_, run_underlying Yba.underlying25, hg, check_key, h1, hs], turned_of hb _ _⟩

theorem wpList_upd {ops : Array Oper} {rest : List Oper} {o : Oper} {a : Act} {w w' : World} {Q : Exit → Act → World → Prop} (hg : o.guard = none) (m x y : Operand) (ho : o.op = .mapUpdate 25 m x y)
    (vm vx vy : Value) (hm : a.eval m = vm) (hx : a.eval x = vx) (hy : a.eval y = vy) (hrun : (Instr.mapUpdate 25 vm vx vy).run Yba.prog w = .ok () w')
    (h : wpList Yba.prog ops Q rest (a.put o.dst undef) w') : wpList Yba.prog ops Q (o :: rest) a w :=
  wpList_plain hg fun _ hK => by
    unfold Oper.wp execOp
    simp only [ho, hm, hx, hy, Sem.run_bind, hrun, Result.andThen_ok]
    exact hK _ _ h

theorem wpList_del {ops : Array Oper} {rest : List Oper} {o : Oper} {a : Act} {w w' : World} {Q : Exit → Act → World → Prop} (hg : o.guard = none) (m x : Operand) (hop : o.op = Op.call { callee := Callee.builtin Builtin.delete, args := #[m, x], argTypes := #[25, 32] })
    (vm vx v : Value) (hm : a.eval m = vm) (hx : a.eval x = vx) (hrun : (Builtin.delete_ #[25, 32] o.type #[vm, vx]).run Yba.prog w = .ok v w')
    (h : wpList Yba.prog ops Q rest (a.put o.dst v) w') : wpList Yba.prog ops Q (o :: rest) a w := by
  refine wpList_plain hg fun K' hK' => ?_
  unfold Oper.wp
  simp [execOp, hop, resolve, invoke, builtin, hm, hx, hrun, Result.andThen]
  exact hK' _ _ h

theorem name0 : (name 0).toList = [111, 99, 116, 101, 116, 68, 101, 108, 116, 97, 67, 111, 117, 110, 116] := by rw [ByteArray.toList_eq]; kernel_rfl
theorem typ0 : (typ 0).toList = [117, 110, 115, 105, 103, 110, 101, 100, 54, 52] := by rw [ByteArray.toList_eq]; kernel_rfl

set_option maxRecDepth 10000 in
theorem cfresh_long (x y : Int) (s : ByteArray) (hs : s.size ≤ maxLen) (h : 1024 < s.size) (w : World) :
    Calls Yba.prog 5 #[.int .u32 x, .int .u16 y, .string s] w fun e w' => e = .returned (.bool true) ∧ Below w.heap.size w w' := by
  unfold maxLen at hs
  go_enter Yba.func5, Yba.ntmps5
  go_wp2
  go_ret
  exact ⟨rfl, Below.refl _ _⟩

set_option maxRecDepth 10000 in
set_option maxHeartbeats 800000 in
theorem cfresh_hit (x y : Int) (s : ByteArray) (hs : s.size ≤ maxLen) (h : ¬ 1024 < s.size) (w : World) (j : Nat) (hj : j < 35) (h1 : ent j = x) (h2 : el j = y) (hno : ∀ i, i < j → ¬ (ent i = x ∧ el i = y)) :
    Calls Yba.prog 5 #[.int .u32 x, .int .u16 y, .string s] w fun e w' => e = .returned (.bool true) ∧ Below w.heap.size w w' := by
  unfold maxLen at hs
  have HN : Hid (∀ i, i < j → ¬ (ent i = x ∧ el i = y)) := hno
  have H1 : Hid (ent j = x) := h1
  have H2 : Hid (el j = y) := h2
  clear hno h1 h2
  go_enter Yba.func5, Yba.ntmps5
  go_wp2_with fail
  refine (builtin_abs _).mono ?_
  rintro e wa ⟨rfl, ea, ca, hFa, hba, hBa, hza⟩
  obtain ⟨l, hr, _, _⟩ := hFa
  obtain ⟨wb, eb, cb, hupd, hTb, hpb⟩ := store_any wa w.heap.size hba hr.pairs x y (.agg #[.string s, .string ⟨#[115, 116, 114, 105, 110, 103]⟩])
  obtain ⟨wc, ec, cc, hdel, hTc⟩ := delete_any wb w.heap.size hTb.at_ hpb 0 1
  have hBc : Hid (Below w.heap.size w wc) := hTc.below (Nat.le_refl _) (hTb.below (Nat.le_refl _) hBa)
  have hzc : Hid (wc.heap.size = w.heap.size + 1) := by show _ = _; rw [hTc.size, hTb.size, hza]
  have HU : Hid ((Instr.mapUpdate 25 (.map (some w.heap.size)) (keyV x y) (.agg #[.string s, .string ⟨#[115, 116, 114, 105, 110, 103]⟩])).run Yba.prog wa = .ok () wb) := hupd
  have HD : Hid (∀ ty, (Builtin.delete_ #[25, 32] ty #[.map (some w.heap.size), keyV 0 1]).run Yba.prog wb = .ok (.tuple #[]) wc) := hdel
  clear hba hBa hza hr hupd hTb hpb hdel hTc
  go_wp2_with (first | (at_mapUpdate; refine wpList_upd rfl _ _ _ rfl _ _ _ rfl rfl rfl HU.out ?_) | (at_delete; refine wpList_del rfl _ _ rfl _ _ _ rfl rfl (HD.out _) ?_))
  refine (builtin_abs _).mono ?_
  rintro e w1 ⟨rfl, es, c, hF0, hb0, hB0, hz0⟩
  have hF : Hid (Full es) := hF0
  have hb : Hid (w1.heap[wc.heap.size]? = some (.map es c)) := hb0
  have hB : Hid (Below w.heap.size w w1) := by
    have := hzc.out
    exact hBc.out.trans (hB0.mono (by omega))
  have hz : Hid (w1.heap.size = wc.heap.size + 1) := hz0
  have hlen := fun ty => run_len w1 wc.heap.size ty hF0 hb0
  clear hF0 hb0 hB0 hz0
  go_wp2_with (at_lookup; refine wpList_look rfl _ _ rfl _ _ _ rfl rfl (look_hit _ _ j x y hj H1.out H2.out hF.out hb.out) ?_)
  refine (cmodel_hit x y _ j hj H1.out H2.out HN.out).mono ?_
  rintro e w2 ⟨rfl, hb2⟩
  have hc0 : w2.cell? ⟨w1.heap.size, 0, none⟩ = some (.string (name j)) := by rw [hb2.cell (p := ⟨w1.heap.size, 0, none⟩) (by simp)]; simp
  have hc1 : w2.cell? ⟨w1.heap.size, 1, none⟩ = some (.string (typ j)) := by rw [hb2.cell (p := ⟨w1.heap.size, 1, none⟩) (by simp)]; simp
  have hz2 : w1.heap.size < w2.heap.size := by have := hb2.size; simp at this; omega
  have hB2 : Hid (Below w.heap.size w w2) := by
    have := hz.out
    have := hzc.out
    refine (hB.out.alloc (by omega) _).trans (hb2.mono (by simp; omega))
  have hbm : Hid (w2.heap[wc.heap.size]? = some (.map es c)) := by
    have := hz.out
    show _ = _
    rw [hb2.block _ (by simp; omega), Below.heap_alloc _ _ _ (by omega)]; exact hb.out
  have hn0 := name0
  have ht0 := typ0
  clear hb2 hlen
  go_wp2_with (at_lookup; refine wpList_look rfl _ _ rfl _ _ _ rfl rfl (look_hit _ _ 0 0 1 (by decide) (by decide +kernel) (by decide +kernel) hF.out (by have := hz.out; show (World.alloc _ _).heap[wc.heap.size]? = _; rw [Below.heap_alloc _ _ _ (by omega)]; exact hbm.out)) ?_)
  go_ret
  have := hz.out
  have := hzc.out
  exact ⟨rfl, (hB2.out.alloc (by omega) _).alloc (by simp; omega) _⟩

set_option maxRecDepth 10000 in
set_option maxHeartbeats 800000 in
theorem cfresh_miss (x y : Int) (s : ByteArray) (hs : s.size ≤ maxLen) (h : ¬ 1024 < s.size) (w : World) (hno : ∀ i, i < 35 → ¬ (ent i = x ∧ el i = y)) :
    Calls Yba.prog 5 #[.int .u32 x, .int .u16 y, .string s] w fun e w' => e = .returned (.bool true) ∧ Below w.heap.size w w' := by
  unfold maxLen at hs
  have HN : Hid (∀ i, i < 35 → ¬ (ent i = x ∧ el i = y)) := hno
  clear hno
  go_enter Yba.func5, Yba.ntmps5
  go_wp2_with fail
  refine (builtin_abs _).mono ?_
  rintro e wa ⟨rfl, ea, ca, hFa, hba, hBa, hza⟩
  obtain ⟨l, hr, _, _⟩ := hFa
  obtain ⟨wb, eb, cb, hupd, hTb, hpb⟩ := store_any wa w.heap.size hba hr.pairs x y (.agg #[.string s, .string ⟨#[115, 116, 114, 105, 110, 103]⟩])
  obtain ⟨wc, ec, cc, hdel, hTc⟩ := delete_any wb w.heap.size hTb.at_ hpb 0 1
  have hBc : Hid (Below w.heap.size w wc) := hTc.below (Nat.le_refl _) (hTb.below (Nat.le_refl _) hBa)
  have hzc : Hid (wc.heap.size = w.heap.size + 1) := by show _ = _; rw [hTc.size, hTb.size, hza]
  have HU : Hid ((Instr.mapUpdate 25 (.map (some w.heap.size)) (keyV x y) (.agg #[.string s, .string ⟨#[115, 116, 114, 105, 110, 103]⟩])).run Yba.prog wa = .ok () wb) := hupd
  have HD : Hid (∀ ty, (Builtin.delete_ #[25, 32] ty #[.map (some w.heap.size), keyV 0 1]).run Yba.prog wb = .ok (.tuple #[]) wc) := hdel
  clear hba hBa hza hr hupd hTb hpb hdel hTc
  go_wp2_with (first | (at_mapUpdate; refine wpList_upd rfl _ _ _ rfl _ _ _ rfl rfl rfl HU.out ?_) | (at_delete; refine wpList_del rfl _ _ rfl _ _ _ rfl rfl (HD.out _) ?_))
  refine (builtin_abs _).mono ?_
  rintro e w1 ⟨rfl, es, c, hF0, hb0, hB0, hz0⟩
  have hF : Hid (Full es) := hF0
  have hb : Hid (w1.heap[wc.heap.size]? = some (.map es c)) := hb0
  have hB : Hid (Below w.heap.size w w1) := by
    have := hzc.out
    exact hBc.out.trans (hB0.mono (by omega))
  have hz : Hid (w1.heap.size = wc.heap.size + 1) := hz0
  have hlen := fun ty => run_len w1 wc.heap.size ty hF0 hb0
  clear hF0 hb0 hB0 hz0
  go_wp2_with (at_lookup; refine wpList_look rfl _ _ rfl _ _ _ rfl rfl (look_miss _ _ x y HN.out hF.out hb.out) ?_)
  refine (cmodel_miss x y _ HN.out).mono ?_
  rintro e w2 ⟨rfl, hb2⟩
  have hc0 : w2.cell? ⟨w1.heap.size, 0, none⟩ = some (.string ⟨#[]⟩) := by rw [hb2.cell (p := ⟨w1.heap.size, 0, none⟩) (by simp)]; simp
  have hc1 : w2.cell? ⟨w1.heap.size, 1, none⟩ = some (.string ⟨#[]⟩) := by rw [hb2.cell (p := ⟨w1.heap.size, 1, none⟩) (by simp)]; simp
  have hz2 : w1.heap.size < w2.heap.size := by have := hb2.size; simp at this; omega
  have hB2 : Hid (Below w.heap.size w w2) := by
    have := hz.out
    have := hzc.out
    refine (hB.out.alloc (by omega) _).trans (hb2.mono (by simp; omega))
  have hbm : Hid (w2.heap[wc.heap.size]? = some (.map es c)) := by
    have := hz.out
    show _ = _
    rw [hb2.block _ (by simp; omega), Below.heap_alloc _ _ _ (by omega)]; exact hb.out
  have hn0 := name0
  have ht0 := typ0
  clear hb2 hlen
  go_wp2_with (at_lookup; refine wpList_look rfl _ _ rfl _ _ _ rfl rfl (look_hit _ _ 0 0 1 (by decide) (by decide +kernel) (by decide +kernel) hF.out (by have := hz.out; show (World.alloc _ _).heap[wc.heap.size]? = _; rw [Below.heap_alloc _ _ _ (by omega)]; exact hbm.out)) ?_)
  go_ret
  have := hz.out
  have := hzc.out
  exact ⟨rfl, (hB2.out.alloc (by omega) _).alloc (by simp; omega) _⟩

end Go.Proofs.Ybulkbrps
