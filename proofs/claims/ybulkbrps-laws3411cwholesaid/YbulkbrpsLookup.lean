/-
  THE WALK OF LawS3411CLookup: three choices of the enterprise, each with a row that bears the ids, or none.
-/
import Derived.Test.YbulkbrpsModel
import Derived.Maps.OwnOps
namespace Go.Proofs.Ybulkbrps
open Go Go.RowKit

/-- 'Builtin', the world behind it left as a variable. -/
theorem builtin_abs (w : World) :
    Calls Yba.prog 6 #[] w fun e w' => e = .returned (.map (some w.heap.size)) ∧ ∃ es c, Full es ∧ w'.heap[w.heap.size]? = some (.map es c) ∧ Below w.heap.size w w' ∧ w'.heap.size = w.heap.size + 1 := by
  refine (builtin_any w).mono fun e w' ⟨he, es, c, hF, hw⟩ => ⟨he, es, c, hF, ?_, ?_, ?_⟩
  · rw [hw]; exact (MapKept.heap_alloc w.drew _).1
  · rw [hw]; exact ((Below.refl _ _).drew).alloc (Nat.le_refl _) _
  · rw [hw]; simp

theorem bcell {W w1 : World} (hb : Below W.heap.size W w1) : (∀ b o, b < W.heap.size → w1.cell? ⟨b, o, none⟩ = W.cell? ⟨b, o, none⟩) ∧ (∀ b o, b < W.heap.size → w1.frozen? ⟨b, o, none⟩ = W.frozen? ⟨b, o, none⟩) :=
  ⟨fun b o h => hb.cell (p := ⟨b, o, none⟩) h, fun b o h => hb.frozen (p := ⟨b, o, none⟩) h⟩

theorem wpList_look {ops : Array Oper} {rest : List Oper} {o : Oper} {a : Act} {w : World} {Q : Exit → Act → World → Prop} (hg : o.guard = none) (m x : Operand) (hop : o.op = .lookup 25 m x true) (vm vx v : Value) (hm : a.eval m = vm) (hx : a.eval x = vx)
    (hrun : (Instr.lookup 25 vm vx true).run Yba.prog w = .ok v w) (h : wpList Yba.prog ops Q rest (a.put o.dst v) w) : wpList Yba.prog ops Q (o :: rest) a w :=
  wpList_value hg (by simp only [execOp, hop, hm, hx, Sem.run_bind, hrun, Result.andThen_ok]; rfl) h

theorem look_hit (w : World) (b i : Nat) (x y : Int) (hi : i < 35) (hx : ent i = x) (hy : el i = y) {es : Array MapEntry} {c : Nat} (hF : Full es) (hb : w.heap[b]? = some (.map es c)) :
    (Instr.lookup 25 (.map (some b)) (.agg #[.int .u32 x, .int .u16 y]) true).run Yba.prog w = .ok (.tuple #[.agg #[.string (name i), .string (typ i)], .bool true]) w := by
  subst hx hy; exact run_look_hit w b i hi hF hb
theorem look_miss (w : World) (b : Nat) (x y : Int) (hno : ∀ i, i < 35 → ¬ (ent i = x ∧ el i = y)) {es : Array MapEntry} {c : Nat} (hF : Full es) (hb : w.heap[b]? = some (.map es c)) :
    (Instr.lookup 25 (.map (some b)) (.agg #[.int .u32 x, .int .u16 y]) true).run Yba.prog w = .ok (.tuple #[.agg #[.string ⟨#[]⟩, .string ⟨#[]⟩], .bool false]) w :=
  run_look_miss w b x y hno hF hb

set_option maxRecDepth 10000 in
set_option maxHeartbeats 400000 in
theorem clookup_zero_hit (x y : Int) (hx0 : 0 ≤ x) (hx1 : x ≤ 4294967295) (w : World) (t0 : (x % 3 == 0) = true) (j : Nat) (hj : j < 35) (h1 : ent j = 0) (h2 : el j = y) (hno : ∀ i, i < j → ¬ (ent i = 0 ∧ el i = y)) :
    Calls Yba.prog 3 #[.int .u32 x, .int .u16 y] w fun e w' => e = .returned (.bool true) ∧ Below w.heap.size w w' := by
  have HN : Hid (∀ i, i < j → ¬ (ent i = 0 ∧ el i = y)) := hno
  have H1 : Hid (ent j = 0) := h1
  have H2 : Hid (el j = y) := h2
  clear hno h1 h2
  go_enter Yba.func3, Yba.ntmps3
  go_wp2_with fail
  refine (builtin_abs _).mono ?_
  rintro e w1 ⟨rfl, es, c, hF0, hb0, hB0, hz0⟩
  have hz : Hid (w1.heap.size = w.heap.size + 1) := hz0
  have hF : Hid (Full es) := hF0
  have hb : Hid (w1.heap[w.heap.size]? = some (.map es c)) := hb0
  have hB : Hid (Below w.heap.size w w1) := hB0
  clear hF0 hb0 hB0 hz0
  go_wp2_with (at_lookup; refine wpList_look rfl _ _ rfl _ _ _ rfl rfl (look_hit _ _ j 0 y hj H1.out H2.out hF.out hb.out) ?_)
  refine (cmodel_hit 0 y _ j hj H1.out H2.out HN.out).mono ?_
  rintro e w2 ⟨rfl, hb2⟩
  have hc0 : w2.cell? ⟨w1.heap.size, 0, none⟩ = some (.string (name j)) := by rw [hb2.cell (p := ⟨w1.heap.size, 0, none⟩) (by simp)]; simp
  have hc1 : w2.cell? ⟨w1.heap.size, 1, none⟩ = some (.string (typ j)) := by rw [hb2.cell (p := ⟨w1.heap.size, 1, none⟩) (by simp)]; simp
  have hz2 : w1.heap.size < w2.heap.size := by have := hb2.size; simp at this; omega
  have hB2 : Hid (Below w.heap.size w w2) := by
    have := hz.out
    refine (hB.out.alloc (by omega) _).trans (hb2.mono (by simp; omega))
  clear hb2
  go_wp2_with fail
  go_ret
  refine ⟨rfl, ?_⟩
  exact hB2.out.alloc (by have := hz.out; omega) _

set_option maxRecDepth 10000 in
set_option maxHeartbeats 400000 in
theorem clookup_zero_miss (x y : Int) (hx0 : 0 ≤ x) (hx1 : x ≤ 4294967295) (w : World) (t0 : (x % 3 == 0) = true) (hno : ∀ i, i < 35 → ¬ (ent i = 0 ∧ el i = y)) :
    Calls Yba.prog 3 #[.int .u32 x, .int .u16 y] w fun e w' => e = .returned (.bool true) ∧ Below w.heap.size w w' := by
  have HN : Hid (∀ i, i < 35 → ¬ (ent i = 0 ∧ el i = y)) := hno
  clear hno
  go_enter Yba.func3, Yba.ntmps3
  go_wp2_with fail
  refine (builtin_abs _).mono ?_
  rintro e w1 ⟨rfl, es, c, hF0, hb0, hB0, hz0⟩
  have hz : Hid (w1.heap.size = w.heap.size + 1) := hz0
  have hF : Hid (Full es) := hF0
  have hb : Hid (w1.heap[w.heap.size]? = some (.map es c)) := hb0
  have hB : Hid (Below w.heap.size w w1) := hB0
  clear hF0 hb0 hB0 hz0
  go_wp2_with (at_lookup; refine wpList_look rfl _ _ rfl _ _ _ rfl rfl (look_miss _ _ 0 y HN.out hF.out hb.out) ?_)
  refine (cmodel_miss 0 y _ HN.out).mono ?_
  rintro e w2 ⟨rfl, hb2⟩
  have hc0 : w2.cell? ⟨w1.heap.size, 0, none⟩ = some (.string ⟨#[]⟩) := by rw [hb2.cell (p := ⟨w1.heap.size, 0, none⟩) (by simp)]; simp
  have hc1 : w2.cell? ⟨w1.heap.size, 1, none⟩ = some (.string ⟨#[]⟩) := by rw [hb2.cell (p := ⟨w1.heap.size, 1, none⟩) (by simp)]; simp
  have hz2 : w1.heap.size < w2.heap.size := by have := hb2.size; simp at this; omega
  have hB2 : Hid (Below w.heap.size w w2) := by
    have := hz.out
    refine (hB.out.alloc (by omega) _).trans (hb2.mono (by simp; omega))
  clear hb2
  go_wp2_with fail
  go_ret
  refine ⟨rfl, ?_⟩
  exact hB2.out.alloc (by have := hz.out; omega) _

set_option maxRecDepth 10000 in
set_option maxHeartbeats 400000 in
theorem clookup_one_hit (x y : Int) (hx0 : 0 ≤ x) (hx1 : x ≤ 4294967295) (w : World) (t0 : (x % 3 == 0) = false) (t1 : (x % 3 == 1) = true) (j : Nat) (hj : j < 35) (h1 : ent j = 32473) (h2 : el j = y) (hno : ∀ i, i < j → ¬ (ent i = 32473 ∧ el i = y)) :
    Calls Yba.prog 3 #[.int .u32 x, .int .u16 y] w fun e w' => e = .returned (.bool true) ∧ Below w.heap.size w w' := by
  have HN : Hid (∀ i, i < j → ¬ (ent i = 32473 ∧ el i = y)) := hno
  have H1 : Hid (ent j = 32473) := h1
  have H2 : Hid (el j = y) := h2
  clear hno h1 h2
  go_enter Yba.func3, Yba.ntmps3
  go_wp2_with fail
  refine (builtin_abs _).mono ?_
  rintro e w1 ⟨rfl, es, c, hF0, hb0, hB0, hz0⟩
  have hz : Hid (w1.heap.size = w.heap.size + 1) := hz0
  have hF : Hid (Full es) := hF0
  have hb : Hid (w1.heap[w.heap.size]? = some (.map es c)) := hb0
  have hB : Hid (Below w.heap.size w w1) := hB0
  clear hF0 hb0 hB0 hz0
  go_wp2_with (at_lookup; refine wpList_look rfl _ _ rfl _ _ _ rfl rfl (look_hit _ _ j 32473 y hj H1.out H2.out hF.out hb.out) ?_)
  refine (cmodel_hit 32473 y _ j hj H1.out H2.out HN.out).mono ?_
  rintro e w2 ⟨rfl, hb2⟩
  have hc0 : w2.cell? ⟨w1.heap.size, 0, none⟩ = some (.string (name j)) := by rw [hb2.cell (p := ⟨w1.heap.size, 0, none⟩) (by simp)]; simp
  have hc1 : w2.cell? ⟨w1.heap.size, 1, none⟩ = some (.string (typ j)) := by rw [hb2.cell (p := ⟨w1.heap.size, 1, none⟩) (by simp)]; simp
  have hz2 : w1.heap.size < w2.heap.size := by have := hb2.size; simp at this; omega
  have hB2 : Hid (Below w.heap.size w w2) := by
    have := hz.out
    refine (hB.out.alloc (by omega) _).trans (hb2.mono (by simp; omega))
  clear hb2
  go_wp2_with fail
  go_ret
  refine ⟨rfl, ?_⟩
  exact hB2.out.alloc (by have := hz.out; omega) _

set_option maxRecDepth 10000 in
set_option maxHeartbeats 400000 in
theorem clookup_one_miss (x y : Int) (hx0 : 0 ≤ x) (hx1 : x ≤ 4294967295) (w : World) (t0 : (x % 3 == 0) = false) (t1 : (x % 3 == 1) = true) (hno : ∀ i, i < 35 → ¬ (ent i = 32473 ∧ el i = y)) :
    Calls Yba.prog 3 #[.int .u32 x, .int .u16 y] w fun e w' => e = .returned (.bool true) ∧ Below w.heap.size w w' := by
  have HN : Hid (∀ i, i < 35 → ¬ (ent i = 32473 ∧ el i = y)) := hno
  clear hno
  go_enter Yba.func3, Yba.ntmps3
  go_wp2_with fail
  refine (builtin_abs _).mono ?_
  rintro e w1 ⟨rfl, es, c, hF0, hb0, hB0, hz0⟩
  have hz : Hid (w1.heap.size = w.heap.size + 1) := hz0
  have hF : Hid (Full es) := hF0
  have hb : Hid (w1.heap[w.heap.size]? = some (.map es c)) := hb0
  have hB : Hid (Below w.heap.size w w1) := hB0
  clear hF0 hb0 hB0 hz0
  go_wp2_with (at_lookup; refine wpList_look rfl _ _ rfl _ _ _ rfl rfl (look_miss _ _ 32473 y HN.out hF.out hb.out) ?_)
  refine (cmodel_miss 32473 y _ HN.out).mono ?_
  rintro e w2 ⟨rfl, hb2⟩
  have hc0 : w2.cell? ⟨w1.heap.size, 0, none⟩ = some (.string ⟨#[]⟩) := by rw [hb2.cell (p := ⟨w1.heap.size, 0, none⟩) (by simp)]; simp
  have hc1 : w2.cell? ⟨w1.heap.size, 1, none⟩ = some (.string ⟨#[]⟩) := by rw [hb2.cell (p := ⟨w1.heap.size, 1, none⟩) (by simp)]; simp
  have hz2 : w1.heap.size < w2.heap.size := by have := hb2.size; simp at this; omega
  have hB2 : Hid (Below w.heap.size w w2) := by
    have := hz.out
    refine (hB.out.alloc (by omega) _).trans (hb2.mono (by simp; omega))
  clear hb2
  go_wp2_with fail
  go_ret
  refine ⟨rfl, ?_⟩
  exact hB2.out.alloc (by have := hz.out; omega) _

set_option maxRecDepth 10000 in
set_option maxHeartbeats 400000 in
theorem clookup_raw_hit (x y : Int) (hx0 : 0 ≤ x) (hx1 : x ≤ 4294967295) (w : World) (t0 : (x % 3 == 0) = false) (t1 : (x % 3 == 1) = false) (j : Nat) (hj : j < 35) (h1 : ent j = x) (h2 : el j = y) (hno : ∀ i, i < j → ¬ (ent i = x ∧ el i = y)) :
    Calls Yba.prog 3 #[.int .u32 x, .int .u16 y] w fun e w' => e = .returned (.bool true) ∧ Below w.heap.size w w' := by
  have HN : Hid (∀ i, i < j → ¬ (ent i = x ∧ el i = y)) := hno
  have H1 : Hid (ent j = x) := h1
  have H2 : Hid (el j = y) := h2
  clear hno h1 h2
  go_enter Yba.func3, Yba.ntmps3
  go_wp2_with fail
  refine (builtin_abs _).mono ?_
  rintro e w1 ⟨rfl, es, c, hF0, hb0, hB0, hz0⟩
  have hz : Hid (w1.heap.size = w.heap.size + 1) := hz0
  have hF : Hid (Full es) := hF0
  have hb : Hid (w1.heap[w.heap.size]? = some (.map es c)) := hb0
  have hB : Hid (Below w.heap.size w w1) := hB0
  clear hF0 hb0 hB0 hz0
  go_wp2_with (at_lookup; refine wpList_look rfl _ _ rfl _ _ _ rfl rfl (look_hit _ _ j x y hj H1.out H2.out hF.out hb.out) ?_)
  refine (cmodel_hit x y _ j hj H1.out H2.out HN.out).mono ?_
  rintro e w2 ⟨rfl, hb2⟩
  have hc0 : w2.cell? ⟨w1.heap.size, 0, none⟩ = some (.string (name j)) := by rw [hb2.cell (p := ⟨w1.heap.size, 0, none⟩) (by simp)]; simp
  have hc1 : w2.cell? ⟨w1.heap.size, 1, none⟩ = some (.string (typ j)) := by rw [hb2.cell (p := ⟨w1.heap.size, 1, none⟩) (by simp)]; simp
  have hz2 : w1.heap.size < w2.heap.size := by have := hb2.size; simp at this; omega
  have hB2 : Hid (Below w.heap.size w w2) := by
    have := hz.out
    refine (hB.out.alloc (by omega) _).trans (hb2.mono (by simp; omega))
  clear hb2
  go_wp2_with fail
  go_ret
  refine ⟨rfl, ?_⟩
  exact hB2.out.alloc (by have := hz.out; omega) _

set_option maxRecDepth 10000 in
set_option maxHeartbeats 400000 in
theorem clookup_raw_miss (x y : Int) (hx0 : 0 ≤ x) (hx1 : x ≤ 4294967295) (w : World) (t0 : (x % 3 == 0) = false) (t1 : (x % 3 == 1) = false) (hno : ∀ i, i < 35 → ¬ (ent i = x ∧ el i = y)) :
    Calls Yba.prog 3 #[.int .u32 x, .int .u16 y] w fun e w' => e = .returned (.bool true) ∧ Below w.heap.size w w' := by
  have HN : Hid (∀ i, i < 35 → ¬ (ent i = x ∧ el i = y)) := hno
  clear hno
  go_enter Yba.func3, Yba.ntmps3
  go_wp2_with fail
  refine (builtin_abs _).mono ?_
  rintro e w1 ⟨rfl, es, c, hF0, hb0, hB0, hz0⟩
  have hz : Hid (w1.heap.size = w.heap.size + 1) := hz0
  have hF : Hid (Full es) := hF0
  have hb : Hid (w1.heap[w.heap.size]? = some (.map es c)) := hb0
  have hB : Hid (Below w.heap.size w w1) := hB0
  clear hF0 hb0 hB0 hz0
  go_wp2_with (at_lookup; refine wpList_look rfl _ _ rfl _ _ _ rfl rfl (look_miss _ _ x y HN.out hF.out hb.out) ?_)
  refine (cmodel_miss x y _ HN.out).mono ?_
  rintro e w2 ⟨rfl, hb2⟩
  have hc0 : w2.cell? ⟨w1.heap.size, 0, none⟩ = some (.string ⟨#[]⟩) := by rw [hb2.cell (p := ⟨w1.heap.size, 0, none⟩) (by simp)]; simp
  have hc1 : w2.cell? ⟨w1.heap.size, 1, none⟩ = some (.string ⟨#[]⟩) := by rw [hb2.cell (p := ⟨w1.heap.size, 1, none⟩) (by simp)]; simp
  have hz2 : w1.heap.size < w2.heap.size := by have := hb2.size; simp at this; omega
  have hB2 : Hid (Below w.heap.size w w2) := by
    have := hz.out
    refine (hB.out.alloc (by omega) _).trans (hb2.mono (by simp; omega))
  clear hb2
  go_wp2_with fail
  go_ret
  refine ⟨rfl, ?_⟩
  exact hB2.out.alloc (by have := hz.out; omega) _

end Go.Proofs.Ybulkbrps
