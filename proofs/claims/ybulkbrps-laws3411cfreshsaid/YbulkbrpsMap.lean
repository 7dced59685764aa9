/-
  WHAT THE MAP OF THE BUILT-IN ELEMENTS DOES AT EACH OPERATION: keys are pairs (uint32, uint16).
-/
import Derived.Test.YbulkbrpsProg
import Derived.Test.YbulkbrpsTab
import Derived.WalkKit
import Derived.WalkSpells
import Derived.WalkLawsBesides
import Derived.MapKept
namespace Go.Proofs.Ybulkbrps
open Go Go.RowKit

theorem equal_key (w : World) (a b c d : Int) : (Op.equal 32 (keyV a b) (keyV c d)).run Yba.prog w = .ok (a == c && b == d) w := by
  cases h1 : (a == c) <;> cases h2 : (b == d) <;> simp [Op.equal, Op.maxDepth, go_sem, h1, h2]

theorem check_key (w : World) (em : Bool) (a b : Int) : (Instr.checkKey em 10000 32 (keyV a b)).run Yba.prog w = .ok () w := by kernel_rfl

theorem ask_any (w : World) (a b : Int) : ∀ (es : List MapEntry) (i : Nat), (∀ e ∈ es, ∃ c d, e.key = keyV c d) →
    ((Instr.findAsking 32 (keyV a b) es i).run Yba.prog w = .ok none w ∧ ∀ e ∈ es, e.key ≠ keyV a b) ∨
    ∃ j e, (Instr.findAsking 32 (keyV a b) es i).run Yba.prog w = .ok (some (i + j, e.val)) w ∧ es[j]? = some e ∧ e.key = keyV a b
  | [], i, _ => Or.inl ⟨rfl, by simp⟩
  | x :: es, i, h => by
    obtain ⟨c, d, hx⟩ := h x (by simp)
    have heq : (Op.equal 32 (keyV a b) x.key).run Yba.prog w = .ok (a == c && b == d) w := by rw [hx]; exact equal_key w a b c d
    by_cases hh : a = c ∧ b = d
    · obtain ⟨rfl, rfl⟩ := hh
      refine Or.inr ⟨0, x, ?_, rfl, hx⟩
      simp [Instr.findAsking, heq]
    · have hf : (a == c && b == d) = false := by
        rw [Bool.and_eq_false_iff]
        by_cases h1 : a = c
        · exact Or.inr (beq_eq_false_iff_ne.2 fun e => hh ⟨h1, e⟩)
        · exact Or.inl (beq_eq_false_iff_ne.2 h1)
      have hne : x.key ≠ keyV a b := by
        rw [hx]
        intro e
        simp at e
        exact hh ⟨e.1.symm, e.2.symm⟩
      have hstep : (Instr.findAsking 32 (keyV a b) (x :: es) i).run Yba.prog w = (Instr.findAsking 32 (keyV a b) es (i + 1)).run Yba.prog w := by
        simp [Instr.findAsking, heq, hf]
      rw [hstep]
      rcases ask_any w a b es (i + 1) (fun e he => h e (by simp [he])) with ⟨h1, h2⟩ | ⟨j, e, h1, h2, h3⟩
      · exact Or.inl ⟨h1, fun e he => by
          rcases List.mem_cons.1 he with rfl | he
          · exact hne
          · exact h2 e he⟩
      · refine Or.inr ⟨j + 1, e, ?_, by simpa using h2, h3⟩
        rw [h1]
        simp [Nat.add_comm, Nat.add_left_comm]

theorem find_any (w : World) (a b : Int) (es : List MapEntry) (h : ∀ e ∈ es, ∃ c d, e.key = keyV c d) :
    ((Instr.findKey 32 (keyV a b) es).run Yba.prog w = .ok none w ∧ ∀ e ∈ es, e.key ≠ keyV a b) ∨
    ∃ j e, (Instr.findKey 32 (keyV a b) es).run Yba.prog w = .ok (some (j, e.val)) w ∧ es[j]? = some e ∧ e.key = keyV a b := by
  cases es with
  | nil => exact Or.inl ⟨by simp [Instr.findKey, Instr.findNow, go_sem], by simp⟩
  | cons x es =>
    have hrun : (Instr.findKey 32 (keyV a b) (x :: es)).run Yba.prog w = (Instr.findAsking 32 (keyV a b) (x :: es) 0).run Yba.prog w := by
      simp [Instr.findKey, Instr.findNow, Instr.sameNow, go_sem]
    rw [hrun]
    rcases ask_any w a b (x :: es) 0 h with ⟨h1, h2⟩ | ⟨j, e, h1, h2, h3⟩
    · exact Or.inl ⟨h1, h2⟩
    · exact Or.inr ⟨j, e, by simpa using h1, h2, h3⟩

/-- All keys of these entries are pairs. -/
def Pairs (es : Array MapEntry) : Prop := ∀ e ∈ es.toList, ∃ c d, e.key = keyV c d

def kv (k : Nat) : Value × Value := (keyV (ent k) (el k), valV k)

/-- The entries are the rows listed in l, in that order. -/
def RowsAre (es : Array MapEntry) (l : List Nat) : Prop := es.toList.map (fun e => (e.key, e.val)) = l.map kv

theorem RowsAre.mem {es : Array MapEntry} {l : List Nat} (h : RowsAre es l) {e : MapEntry} (he : e ∈ es.toList) : ∃ k ∈ l, e.key = keyV (ent k) (el k) ∧ e.val = valV k := by
  have : (e.key, e.val) ∈ l.map kv := h ▸ List.mem_map.2 ⟨e, he, rfl⟩
  obtain ⟨k, hk, e1⟩ := List.mem_map.1 this
  simp only [kv, Prod.mk.injEq] at e1
  exact ⟨k, hk, e1.1.symm, e1.2.symm⟩

theorem RowsAre.has {es : Array MapEntry} {l : List Nat} (h : RowsAre es l) {k : Nat} (hk : k ∈ l) : ∃ e ∈ es.toList, e.key = keyV (ent k) (el k) ∧ e.val = valV k := by
  have : kv k ∈ es.toList.map (fun e => (e.key, e.val)) := by rw [h]; exact List.mem_map.2 ⟨k, hk, rfl⟩
  obtain ⟨e, he, e1⟩ := List.mem_map.1 this
  simp only [kv, Prod.mk.injEq] at e1
  exact ⟨e, he, e1.1, e1.2⟩

theorem RowsAre.pairs {es : Array MapEntry} {l : List Nat} (h : RowsAre es l) : Pairs es := fun e he => by
  obtain ⟨k, _, hk, _⟩ := h.mem he
  exact ⟨_, _, hk⟩

theorem RowsAre.size {es : Array MapEntry} {l : List Nat} (h : RowsAre es l) : es.size = l.length := by
  have := congrArg List.length h
  simpa using this

theorem RowsAre.push {es : Array MapEntry} {l : List Nat} (h : RowsAre es l) (k n : Nat) : RowsAre (es.push { key := keyV (ent k) (el k), val := valV k, born := n }) (l ++ [k]) := by
  unfold RowsAre at *
  simp [h, kv]

theorem rowsAre_nil : RowsAre #[] [] := rfl

/-- The map of the 35 rows, in whatever order they were laid. -/
def Full (es : Array MapEntry) : Prop := ∃ l : List Nat, RowsAre es l ∧ l.Nodup ∧ ∀ k, k ∈ l ↔ k < 35

theorem Full.size {es : Array MapEntry} (h : Full es) : es.size = 35 := by
  obtain ⟨l, h1, h2, h3⟩ := h
  rw [h1.size]
  have hp : l.Perm (List.range 35) := (List.perm_ext_iff_of_nodup h2 List.nodup_range).2 fun a => by rw [h3, List.mem_range]
  rw [hp.length_eq, List.length_range]

theorem push_set (h : Array Obj) (o o' : Obj) : (h.push o).setIfInBounds h.size o' = h.push o' := by
  apply Array.ext_getElem?
  intro i
  simp only [Array.getElem?_setIfInBounds, Array.getElem?_push, Array.size_push]
  by_cases h1 : i = h.size
  · subst h1; simp
  · simp [h1, Ne.symm h1]

theorem run_setNew (w : World) (es : Array MapEntry) (c : Nat) (o' : Obj) : (setObj w.heap.size o').run Yba.prog (w.alloc (.map es c)) = .ok () (w.alloc o') := by
  have hb : (w.alloc (.map es c)).heap[w.heap.size]? = some (.map es c) := (MapKept.heap_alloc w _).1
  rw [MapKept.run_setObj_map (P := Yba.prog) o' hb]
  show Result.ok () ({ heap := (w.heap.push (.map es c)).setIfInBounds w.heap.size o', tape := w.tape, drawn := w.drawn, os := w.os, output := w.output } : World) = _
  rw [push_set]
  rfl

/-- A row that is not there yet goes into the map. -/
theorem run_insert (w : World) {es : Array MapEntry} {c : Nat} {l : List Nat} (h : RowsAre es l) (hl : ∀ j ∈ l, j < 35) (k : Nat) (hk : k < 35) (hn : k ∉ l) :
    (Instr.mapUpdate 25 (.map (some w.heap.size)) (keyV (ent k) (el k)) (valV k)).run Yba.prog (w.alloc (.map es c)) = .ok () (w.alloc (.map (es.push { key := keyV (ent k) (el k), val := valV k, born := c }) (c + 1))) := by
  have hb : (w.alloc (.map es c)).heap[w.heap.size]? = some (.map es c) := (MapKept.heap_alloc w _).1
  have hg := MapKept.run_getObj_map (P := Yba.prog) hb
  have hs := fun o => run_setNew w es c o
  rcases find_any (w.alloc (.map es c)) (ent k) (el k) es.toList h.pairs with ⟨h1, _⟩ | ⟨j, e, _, h2, h3⟩
  · simp [Instr.mapUpdate, run_underlying Yba.underlying25, hg, check_key, h1, hs]
  · exfalso
    obtain ⟨k', hk', h4, _⟩ := h.mem (List.mem_of_getElem? h2)
    rw [h3] at h4
    simp at h4
    obtain rfl := key_inj hk (hl k' hk') h4.1 h4.2
    exact hn hk'

/-- A look-up of the ids of row i. -/
theorem run_look_hit (w : World) (b i : Nat) (hi : i < 35) {es : Array MapEntry} {c : Nat} (hF : Full es) (hb : w.heap[b]? = some (.map es c)) :
    (Instr.lookup 25 (.map (some b)) (keyV (ent i) (el i)) true).run Yba.prog w = .ok (.tuple #[valV i, .bool true]) w := by
  obtain ⟨l, h, _, hl⟩ := hF
  have hg := MapKept.run_getObj_map (P := Yba.prog) hb
  rcases find_any w (ent i) (el i) es.toList h.pairs with ⟨_, h2⟩ | ⟨j, e, h1, h2, h3⟩
  · exfalso
    obtain ⟨e, he, h4, _⟩ := h.has ((hl i).2 hi)
    exact h2 e he h4
  · obtain ⟨k', hk', h4, h5⟩ := h.mem (List.mem_of_getElem? h2)
    rw [h3] at h4
    simp at h4
    obtain rfl := key_inj hi ((hl k').1 hk') h4.1 h4.2
    simp [Instr.lookup, run_underlying Yba.underlying25, hg, check_key, h1, h5]

/-- A look-up of ids that no row bears. -/
theorem run_look_miss (w : World) (b : Nat) (x y : Int) (hno : ∀ i, i < 35 → ¬ (ent i = x ∧ el i = y)) {es : Array MapEntry} {c : Nat} (hF : Full es) (hb : w.heap[b]? = some (.map es c)) :
    (Instr.lookup 25 (.map (some b)) (keyV x y) true).run Yba.prog w = .ok (.tuple #[.agg #[.string ⟨#[]⟩, .string ⟨#[]⟩], .bool false]) w := by
  obtain ⟨l, h, _, hl⟩ := hF
  have hg := MapKept.run_getObj_map (P := Yba.prog) hb
  have hz : (zeroValue 29).run Yba.prog w = .ok (.agg #[.string ⟨#[]⟩, .string ⟨#[]⟩]) w := by kernel_rfl
  rcases find_any w x y es.toList h.pairs with ⟨h1, _⟩ | ⟨j, e, _, h2, h3⟩
  · simp [Instr.lookup, run_underlying Yba.underlying25, hg, check_key, h1, hz]
  · exfalso
    obtain ⟨k', hk', h4, _⟩ := h.mem (List.mem_of_getElem? h2)
    rw [h3] at h4
    simp at h4
    exact hno k' ((hl k').1 hk') ⟨h4.1.symm, h4.2.symm⟩

theorem run_len (w : World) (b ty : Nat) {es : Array MapEntry} {c : Nat} (hF : Full es) (hb : w.heap[b]? = some (.map es c)) : (Builtin.len_ #[25] ty #[.map (some b)]).run Yba.prog w = .ok (.int .i64 35) w := by
  have hg := MapKept.run_getObj_map (P := Yba.prog) hb
  simp [Builtin.len_, run_underlying Yba.underlying25, hg, goInt, hF.size]
end Go.Proofs.Ybulkbrps
