/-
  WHAT THE WALK OF positionsOf SAYS OF MEMORY, and its small laws.
-/
import Derived.Test.YbulkbrpsDoorAModel
namespace Go.Proofs.YbulkbrpsDoor
open Go.RowKit

theorem hide {p : Prop} (h : p) : Hid p := h

theorem prec_any (x : ByteArray) (w : World) :
    Calls Ybad.prog 15 #[.string x] w fun e w' => ∃ (pj : Nat) (pb : Bool), Hid (pb = true → pj < 3 ∧ x = SRC pj) ∧ Hid (pb = false → ∀ j, j < 3 → x ≠ SRC j) ∧ e = .returned (.tuple #[.int .i64 pj, .bool pb]) ∧ w' = w := by
  by_cases h : ∃ j, j < 3 ∧ x = SRC j
  · obtain ⟨j, hj, rfl⟩ := h
    exact (prec_hit j hj w).mono fun e w' ⟨he, hw⟩ => ⟨j, true, fun _ => ⟨hj, rfl⟩, fun h => (by cases h), he, hw⟩
  · exact (prec_miss x (fun j hj e => h ⟨j, hj, e⟩) w).mono fun e w' ⟨he, hw⟩ => ⟨0, false, fun h => (by cases h), fun _ j hj e => h ⟨j, hj, e⟩, he, hw⟩

/-- What stays while the 'positions' in the second block is filled. -/
structure PEnv (w wr : World) : Prop where
  res : wr.heap[w.heap.size]? = some (.cells zeroP 46 (0, 0))
  below : Below w.heap.size w wr

theorem PEnv.set {w wr : World} (h : PEnv w wr) {b : Nat} (hb : w.heap.size < b) (i : Nat) (v : Value) : PEnv w (wr.setCell ⟨b, i, none⟩ v) where
  res := by rw [Below.heap_setCell _ _ _ _ (by simp; omega)]; exact h.res
  below := h.below.setCell (by simp; omega) _
theorem PEnv.lt {w wr : World} (h : PEnv w wr) : w.heap.size < wr.heap.size := (Array.getElem?_eq_some_iff.1 h.res).1
theorem PEnv.alloc {w wr : World} (h : PEnv w wr) (o : Obj) : PEnv w (wr.alloc o) where
  res := by rw [Below.heap_alloc _ _ _ h.lt]; exact h.res
  below := h.below.alloc (Nat.le_of_lt h.lt) _
theorem PEnv.drewN {w wr : World} (h : PEnv w wr) (n : Nat) : PEnv w (wr.drewN n) where
  res := h.res
  below := ⟨h.below.os, h.below.tape, h.below.output, h.below.size, h.below.block⟩

/-- The four words of 'seen'. -/
def SeenAt (w : World) (b : Nat) (c : Nat → Nat) : Prop := w.heap[b]? = some (.cells #[.int .u64 (c 0), .int .u64 (c 1), .int .u64 (c 2), .int .u64 (c 3)] 52 (0, 0))

/-- A row's values while the first loop fills them: from the m-th round on -1. -/
def ini (m a : Nat) : Nat → Int := fun _ => if m ≤ a then -1 else 0

theorem heap2 (w : World) (a b : Obj) (k : Nat) : ((w.alloc a).alloc b).heap[k]? = if k = w.heap.size + 1 then some b else if k = w.heap.size then some a else w.heap[k]? := by
  show ((w.heap.push a).push b)[k]? = _
  simp only [Array.getElem?_push, Array.size_push]
theorem penv_start (w : World) : PEnv w ((w.alloc (.cells zeroP 46)).alloc (.cells zeroP 46)) where
  res := by rw [heap2]; simp
  below := ((Below.refl _ _).alloc (Nat.le_refl _) _).alloc (by simp) _
theorem pat2_start (w : World) (n : Nat) : PAt (((w.alloc (.cells zeroP 46)).alloc (.cells zeroP 46)).drewN n) (w.heap.size + 1) (ini 1 0) (ini 2 0) (ini 3 0) false := by
  show ((w.alloc (.cells zeroP 46)).alloc (.cells zeroP 46)).heap[w.heap.size + 1]? = _
  rw [heap2]; simp [zeroP, posC, ini]

/-- While no name has come twice, the bit of each earlier name's mark is set. -/
def Marks (c : Nat → Nat) (ns : List ByteArray) (k : Nat) (r : Bool) : Prop :=
  (∀ i, c i < 2 ^ 64) ∧ (r = false → ∀ j, j < k → (c (mark (ns.getD j ByteArray.empty) / 64)).testBit (mark (ns.getD j ByteArray.empty) % 64) = true)

theorem PAt.drewN {w : World} {b : Nat} {f g h : Nat → Int} {r : Bool} (H : PAt w b f g h r) (n : Nat) : PAt (w.drewN n) b f g h r := H
theorem seen_drewN {w : World} {b : Nat} {c : Nat → Nat} (h : SeenAt w b c) (n : Nat) : SeenAt (w.drewN n) b c := h
theorem cell_drewN {w : World} {p : Addr} {u : Value} (h : w.cell? p = some u) (n : Nat) : (w.drewN n).cell? p = some u := h
theorem size_drewN {w : World} {b : Nat} (h : b < w.heap.size) (n : Nat) : b < (w.drewN n).heap.size := h
theorem seen_set {w : World} {b : Nat} {c : Nat → Nat} (h : SeenAt w b c) {a : Addr} (ha : b ≠ a.block) (v : Value) : SeenAt (w.setCell a v) b c := by
  unfold SeenAt; rw [Below.heap_setCell _ _ _ _ ha]; exact h
theorem cell_set {w : World} {p : Addr} {u : Value} (h : w.cell? p = some u) {a : Addr} (ha : p.block ≠ a.block) (v : Value) : (w.setCell a v).cell? p = some u := by
  rw [World.cell?_of_block (w := w) (Below.heap_setCell _ _ _ _ ha)]; exact h
theorem size_set {w : World} {b : Nat} (h : b < w.heap.size) (a : Addr) (v : Value) : b < (w.setCell a v).heap.size := by
  simpa [World.setCell] using h

theorem wrap_pow (i : Nat) (hi : i < 64) : IntKind.u64.wrap (2 ^ i) = ((2 ^ i : Nat) : Int) := by
  have h : 2 ^ i < 2 ^ 64 := Nat.pow_lt_pow_right (by decide) hi
  rw [show (2 ^ i : Int) = ((2 ^ i : Nat) : Int) from by simp]
  generalize 2 ^ i = p at *
  rw [IntKind.wrap_u64]
  omega
theorem and_pow_ne {c i : Nat} (h : c.testBit i = true) : (c &&& 2 ^ i) ≠ 0 := fun e => by
  have := congrArg (fun n => n.testBit i) e
  simp [Nat.testBit_and, h] at this
theorem SeenAt.at {w : World} {b : Nat} {c : Nat → Nat} (h : SeenAt w b c) (i : Nat) (hi : i < 4) : w.cell? ⟨b, i, none⟩ = some (.int .u64 (c i)) := by
  rw [cell_of_row w b i _ 52 (0, 0) h]
  match i, hi with
  | 0, _ => rfl
  | 1, _ => rfl
  | 2, _ => rfl
  | 3, _ => rfl
theorem FieldsAt.of_heap {w w' : World} {b : Nat} {ns : List ByteArray} (h : FieldsAt w b ns) (e : w'.heap = w.heap) : FieldsAt w' b ns := fun j hj => by
  have hc : ∀ p, w'.cell? p = w.cell? p := fun p => World.cell?_of_block (w := w) (by rw [e])
  obtain ⟨h1, h2, h3⟩ := h j hj
  exact ⟨(hc _).trans h1, (hc _).trans h2, (hc _).trans h3⟩
theorem first_among {ns : List ByteArray} {x : ByteArray} : ∀ {k : Nat}, among ns k x → ∃ j, j < k ∧ ns.getD j ByteArray.empty = x ∧ ∀ i, i < j → ns.getD i ByteArray.empty ≠ x
  | 0, ⟨_, h, _⟩ => by omega
  | k + 1, h => by
    by_cases hk : among ns k x
    · obtain ⟨j, hj, h1, h2⟩ := first_among hk
      exact ⟨j, by omega, h1, h2⟩
    · obtain ⟨j, hj, h1⟩ := h
      have hjk : j = k := by
        rcases Nat.lt_or_ge j k with h' | h'
        · exact absurd ⟨j, h', h1⟩ hk
        · omega
      subst hjk
      exact ⟨j, hj, h1, fun i hi e => hk ⟨i, hi, e⟩⟩

def putFrom : Act → Nat → List Value → Act
  | a, _, [] => a
  | a, n, v :: vs => putFrom (a.put (some n) v) (n + 1) vs
/-- A statement by itself, which writes sixteen slots from m on: what follows is laid aside. -/
theorem wp_light {P : Program} {s : Code} {K : Act → World → Prop} {Q' : Exit → Act → World → Prop} {a : Act} {w : World} (m : Nat) (R : World → Prop)
    (h1 : s.wp P (Exit.then (fun a' w' => R w' ∧ ∃ v0 v1 v2 v3 v4 v5 v6 v7 v8 v9 v10 v11 v12 v13 v14 v15 : Value, a' = putFrom a m [v0, v1, v2, v3, v4, v5, v6, v7, v8, v9, v10, v11, v12, v13, v14, v15]) (fun _ _ _ => False)) a w) (h2 : ∀ w' v0 v1 v2 v3 v4 v5 v6 v7 v8 v9 v10 v11 v12 v13 v14 v15, R w' → K (putFrom a m [v0, v1, v2, v3, v4, v5, v6, v7, v8, v9, v10, v11, v12, v13, v14, v15]) w') : s.wp P (Exit.then K Q') a w := by
  refine wp_mono h1 ?_
  intro e a' w' hq
  cases e with
  | normal => obtain ⟨hR, v0, v1, v2, v3, v4, v5, v6, v7, v8, v9, v10, v11, v12, v13, v14, v15, rfl⟩ := hq; exact h2 w' v0 v1 v2 v3 v4 v5 v6 v7 v8 v9 v10 v11 v12 v13 v14 v15 hR
  | exit id => exact hq.elim
  | goto l => exact hq.elim
  | ret => exact hq.elim
  | panic ch => exact hq.elim
  | outgrown => exact hq.elim

/-- Behind the call inside the statement that sets 'repeats': new blocks alone. -/
structure Mid (w w2 : World) (bs fb q cw : Nat) (x : ByteArray) (c : Nat → Nat) (F G H : Nat → Int) (k : Nat) : Prop where
  env : PEnv w w2
  pat : PAt w2 (w.heap.size + 1) (fun j => step (ST j) x k (F j)) (fun j => step (EN j) x k (G j)) (fun j => step (SRC j) x k (H j)) false
  seen : SeenAt w2 bs c
  size : fb < w2.heap.size
  name : w2.cell? ⟨fb, 0, none⟩ = some (.string x)
  seenc : w2.cell? ⟨bs, q, none⟩ = some (.int .u64 (cw : Int))
theorem SeenAt.free {w : World} {b : Nat} {c : Nat → Nat} (h : SeenAt w b c) (i : Nat) : w.frozen? ⟨b, i, none⟩ = false := frozen_of_row w b i _ 52 h
/-- One word turned. -/
def updN (c : Nat → Nat) (q v : Nat) : Nat → Nat := fun i => if i = q then v else c i
theorem SeenAt.set {w : World} {b : Nat} {c : Nat → Nat} (h : SeenAt w b c) (q : Nat) (hq : q < 4) (v : Nat) : SeenAt (w.setCell ⟨b, q, none⟩ (.int .u64 (v : Int))) b (updN c q v) := by
  unfold SeenAt
  rw [heap_setCell_same w b q _ 52 _ h]
  match q, hq with
  | 0, _ => rfl
  | 1, _ => rfl
  | 2, _ => rfl
  | 3, _ => rfl
theorem marks_step {c : Nat → Nat} {ns : List ByteArray} {k q cw bv ov m : Nat} {x : ByteArray} {r' : Bool} (hM : Marks c ns k false) (hx : x = ns.getD k ByteArray.empty) (hm : m = mark x) (hq : m / 64 = q) (hcw : cw = c q) (hbv : 2 ^ (m % 64) = bv) (hbl : bv < 2 ^ 64) (hov : cw ||| bv = ov) : Marks (updN c q ov) ns (k + 1) r' := by
  refine ⟨fun i => ?_, fun _ j hj => ?_⟩
  · unfold updN
    split
    · rw [← hov]; exact Nat.or_lt_two_pow (by rw [hcw]; exact hM.1 _) hbl
    · exact hM.1 i
  · unfold updN
    by_cases e : j = k
    · subst e
      rw [← hx, ← hm, if_pos hq, ← hov, ← hbv, Nat.testBit_or]
      simp
    · have h := hM.2 rfl j (by omega)
      split
      · rename_i e2
        rw [← hov, Nat.testBit_or, hcw, ← e2, h]
        rfl
      · exact h
end Go.Proofs.YbulkbrpsDoor
