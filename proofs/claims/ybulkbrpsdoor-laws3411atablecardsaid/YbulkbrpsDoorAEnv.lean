/-
  WHAT THE WALKS OF zzs3411amodel AND positionsOf SAY OF MEMORY.
-/
import Derived.Test.YbulkbrpsDoorASmall
import Derived.Great.BuildSlice
namespace Go.Proofs.YbulkbrpsDoor
open Go.RowKit

/-- A row of strings lies in block b. -/
def StrsAt (w : World) (b : Nat) (ns : List ByteArray) : Prop := ∀ j, j < ns.length → w.cell? ⟨b, j, none⟩ = some (.string (ns.getD j ByteArray.empty))
theorem StrsAt.later {w w' : World} {b : Nat} {ns : List ByteArray} (h : StrsAt w b ns) {B : Nat} (hb : Below B w w') (hlt : b < B) : StrsAt w' b ns := fun j hj => by
  rw [hb.cell (p := ⟨b, j, none⟩) hlt]; exact h j hj

/-- A 'positions' lies in block b. -/
def PAt (w : World) (b : Nat) (f g h : Nat → Int) (r : Bool) : Prop := w.heap[b]? = some (.cells (posC f g h r) 46 (0, 0))

section
variable {w : World} {b : Nat} {f g h : Nat → Int} {r : Bool}
theorem PAt.lt (H : PAt w b f g h r) : b < w.heap.size := (Array.getElem?_eq_some_iff.1 H).1
theorem PAt.at_f (H : PAt w b f g h r) (j : Nat) (hj : j < 5) : w.cell? ⟨b, j, none⟩ = some (.int .i32 (f j)) := by
  rw [cell_of_row w b j _ 46 (0, 0) H]; exact posC_f f g h r j hj
theorem PAt.at_g (H : PAt w b f g h r) (j : Nat) (hj : j < 5) : w.cell? ⟨b, 5 + j, none⟩ = some (.int .i32 (g j)) := by
  rw [cell_of_row w b (5 + j) _ 46 (0, 0) H]; exact posC_g f g h r j hj
theorem PAt.at_h (H : PAt w b f g h r) (j : Nat) (hj : j < 3) : w.cell? ⟨b, 10 + j, none⟩ = some (.int .i32 (h j)) := by
  rw [cell_of_row w b (10 + j) _ 46 (0, 0) H]; exact posC_h f g h r j hj
theorem PAt.at_r (H : PAt w b f g h r) : w.cell? ⟨b, 13, none⟩ = some (.bool r) := by
  rw [cell_of_row w b 13 _ 46 (0, 0) H]; exact posC_r f g h r
theorem PAt.free (H : PAt w b f g h r) (i : Nat) : w.frozen? ⟨b, i, none⟩ = false := frozen_of_row w b i _ 46 H
theorem PAt.set_f (H : PAt w b f g h r) (j : Nat) (hj : j < 5) (v : Int) : PAt (w.setCell ⟨b, j, none⟩ (.int .i32 v)) b (upd f j v) g h r := by
  unfold PAt; rw [heap_setCell_same w b j _ 46 _ H, posC_set_f f g h r j hj]
theorem PAt.set_g (H : PAt w b f g h r) (j : Nat) (hj : j < 5) (v : Int) : PAt (w.setCell ⟨b, 5 + j, none⟩ (.int .i32 v)) b f (upd g j v) h r := by
  unfold PAt; rw [heap_setCell_same w b (5 + j) _ 46 _ H, posC_set_g f g h r j hj]
theorem PAt.set_h (H : PAt w b f g h r) (j : Nat) (hj : j < 3) (v : Int) : PAt (w.setCell ⟨b, 10 + j, none⟩ (.int .i32 v)) b f g (upd h j v) r := by
  unfold PAt; rw [heap_setCell_same w b (10 + j) _ 46 _ H, posC_set_h f g h r j hj]
theorem PAt.set_r (H : PAt w b f g h r) (r' : Bool) : PAt (w.setCell ⟨b, 13, none⟩ (.bool r')) b f g h r' := by
  unfold PAt; rw [heap_setCell_same w b 13 _ 46 _ H, posC_set_r f g h r r']
theorem PAt.congr (H : PAt w b f g h r) {f' g' h' : Nat → Int} {r' : Bool} (hf : ∀ j, j < 5 → f j = f' j) (hg : ∀ j, j < 5 → g j = g' j) (hh : ∀ j, j < 3 → h j = h' j) (hr : r = r') : PAt w b f' g' h' r' := by
  unfold PAt at *; rw [H, posC_congr hf hg hh hr]
theorem PAt.alloc (H : PAt w b f g h r) (o : Obj) : PAt (w.alloc o) b f g h r := by
  unfold PAt; rw [Below.heap_alloc _ _ _ H.lt]; exact H
theorem PAt.other (H : PAt w b f g h r) {a : Addr} (ha : b ≠ a.block) (v : Value) : PAt (w.setCell a v) b f g h r := by
  unfold PAt; rw [Below.heap_setCell _ _ _ _ ha]; exact H
end

/-- One value behind q rounds of an inner loop. -/
def mix (f' f : Nat → Int) (q : Nat) : Nat → Int := fun j => if j < q then f' j else f j
theorem mix_at (f' f : Nat → Int) (q : Nat) : mix f' f q q = f q := by simp [mix]
theorem mix_kept {f' f : Nat → Int} {q : Nat} (h : f' q = f q) (j : Nat) : mix f' f q j = mix f' f (q + 1) j := by
  unfold mix
  by_cases e : j = q
  · subst e; simp [h]
  · have : (j < q + 1) = (j < q) := by simp; omega
    simp [this]
theorem mix_upd {f' f : Nat → Int} {q : Nat} {v : Int} (h : f' q = v) (j : Nat) : upd (mix f' f q) q v j = mix f' f (q + 1) j := by
  unfold upd mix
  by_cases e : j = q
  · subst e; simp [h]
  · have : (j < q + 1) = (j < q) := by simp; omega
    simp [e, this]
theorem mix_all (f' f : Nat → Int) (n j : Nat) (h : j < n) : mix f' f n j = f' j := by simp [mix, h]
theorem mix_none (f' f : Nat → Int) (j : Nat) : mix f' f 0 j = f j := by simp [mix]

/-! ### a new variable of a wide type: laid, then stored whole -/
theorem setRow_new (w : World) (old cs : Array Value) (t : TypeId) (fr : Nat × Nat) : (w.alloc (.cells old t fr)).setRow w.heap.size cs = w.alloc (.cells cs t fr) := by
  unfold World.setRow World.alloc
  congr 1
  apply Array.ext_getElem?
  intro i
  simp only [Array.getElem?_modify, Array.getElem?_push]
  by_cases h : i = w.heap.size
  · subst h; simp
  · simp [h, Ne.symm h]
theorem wpList_allocT {ops : Array Oper} {rest : List Oper} {o : Oper} {a : Act} {w : World} {Q : Exit → Act → World → Prop} (t : TypeId) (Z : Array Value)
    (hz : ∀ w : World, (Instr.alloc t true (.tuple #[])).run Ybad.prog w = .ok (.pointer (some ⟨w.heap.size, 0, none⟩)) (w.alloc (.cells Z t))) (hgd : o.guard = none) (hop : o.op = .alloc t)
    (h : wpList Ybad.prog ops Q rest (a.put o.dst (.pointer (some ⟨w.heap.size, 0, none⟩))) (w.alloc (.cells Z t))) : wpList Ybad.prog ops Q (o :: rest) a w :=
  wpList_plain hgd fun _ hK => by
    unfold Oper.wp execOp
    simp only [hop, Sem.run_bind, hz, Result.andThen_ok]
    exact hK _ _ h
theorem wpList_storeT {ops : Array Oper} {rest : List Oper} {o : Oper} {a : Act} {w : World} {Q : Exit → Act → World → Prop} (t : TypeId) (Z cs : Array Value) (hi : (Ybad.prog.info? t).map (·.size) = some cs.size) (hold : Z.size = cs.size) (h1 : cs.all (·.oneCell') = true)
    (hgd : o.guard = none) (x y : Operand) (hop : o.op = .store t x y)
    (hx : a.eval x = .pointer (some ⟨w.heap.size, 0, none⟩)) (hy : a.eval y = .agg cs)
    (h : wpList Ybad.prog ops Q rest (a.put o.dst undef) (w.alloc (.cells cs t))) : wpList Ybad.prog ops Q (o :: rest) a (w.alloc (.cells Z t)) := by
  refine wpList_store_row hgd t x y hop w.heap.size cs hx hy t Z (heap_alloc_new _ _) hi hold h1 ?_
  rw [setRow_new]; exact h

def srcV : Array Value := (srcL.map fun l => Value.string ⟨l.toArray⟩).toArray
def stV : Array Value := (stL.map fun l => Value.string ⟨l.toArray⟩).toArray
def enV : Array Value := (enL.map fun l => Value.string ⟨l.toArray⟩).toArray
theorem srcV_at (j : Nat) (h : j < 3) : srcV[j]? = some (.string (SRC j)) := by
  match j, h with
  | 0, _ => rfl
  | 1, _ => rfl
  | 2, _ => rfl
theorem stV_at (j : Nat) (h : j < 5) : stV[j]? = some (.string (ST j)) := by
  match j, h with
  | 0, _ => rfl
  | 1, _ => rfl
  | 2, _ => rfl
  | 3, _ => rfl
  | 4, _ => rfl
theorem enV_at (j : Nat) (h : j < 5) : enV[j]? = some (.string (EN j)) := by
  match j, h with
  | 0, _ => rfl
  | 1, _ => rfl
  | 2, _ => rfl
  | 3, _ => rfl
  | 4, _ => rfl
def zero3 : Array Value := Array.replicate 3 (.string ⟨#[]⟩)
def zero5 : Array Value := Array.replicate 5 (.string ⟨#[]⟩)
def zeroP : Array Value := posC (fun _ => 0) (fun _ => 0) (fun _ => 0) false
theorem alloc58 (w : World) : (Instr.alloc 58 true (.tuple #[])).run Ybad.prog w = .ok (.pointer (some ⟨w.heap.size, 0, none⟩)) (w.alloc (.cells zero3 58)) := by kernel_rfl
theorem alloc55 (w : World) : (Instr.alloc 55 true (.tuple #[])).run Ybad.prog w = .ok (.pointer (some ⟨w.heap.size, 0, none⟩)) (w.alloc (.cells zero5 55)) := by kernel_rfl
theorem alloc46 (w : World) : (Instr.alloc 46 true (.tuple #[])).run Ybad.prog w = .ok (.pointer (some ⟨w.heap.size, 0, none⟩)) (w.alloc (.cells zeroP 46)) := by kernel_rfl
theorem posC_one (f g h : Nat → Int) (r : Bool) : (posC f g h r).all (·.oneCell') = true := by simp [posC, Value.oneCell']
end Go.Proofs.YbulkbrpsDoor
