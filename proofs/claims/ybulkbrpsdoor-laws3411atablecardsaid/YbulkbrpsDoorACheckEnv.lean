/-
  WHAT THE WALKS OF zzs3411acheck AND OF THE LAWS SAY OF MEMORY: rows that make has laid.
-/
import Derived.Test.YbulkbrpsDoorAEnv
import Derived.Laws.MakeOwn
import Derived.Deep.MidRow
namespace Go.Proofs.YbulkbrpsDoor
open Go.RowKit

theorem make_of (t e : TypeId) (z : Value) (size bytes : Nat) (ht : Ybad.prog.underlying t = some (.slice e)) (hi : (Ybad.prog.info? e).map (fun i => (i.zero, i.size, i.bytes)) = some (some z, size, bytes)) (hb : bytes ≤ 1024) (n : Nat) (hn : n ≤ 1024) (w : World) :
    (Instr.makeSlice t (.int .i64 n) (.int .i64 n)).run Ybad.prog w = .ok (.slice (some ⟨w.heap.size, 0, none⟩) n n) (w.alloc (.cells (madeCells z.cells (n * size)) e)) := by
  cases hq : Ybad.prog.info? e with
  | none => simp [hq] at hi
  | some i =>
    simp only [hq, Option.map_some, Option.some.injEq, Prod.mk.injEq] at hi
    obtain ⟨h1, h2, h3⟩ := hi
    have hm : (i.bytes : Int) * n ≤ 1024 * 1024 := by
      have : i.bytes * n ≤ 1024 * 1024 := Nat.mul_le_mul (by omega) hn
      rw [← Int.natCast_mul]
      omega
    have h := run_make (P := Ybad.prog) w t e i z ht hq h1 .i64 .i64 n n (by omega) (by omega) (by omega) (by omega)
    rw [h2] at h
    exact h
theorem make39 (n : Nat) (hn : n ≤ 1024) (w : World) : (Instr.makeSlice 39 (.int .i64 n) (.int .i64 n)).run Ybad.prog w = .ok (.slice (some ⟨w.heap.size, 0, none⟩) n n) (w.alloc (.cells (madeCells #[.string ⟨#[]⟩, .string ⟨#[]⟩, .slice none 0 0] (n * 3)) 42)) :=
  make_of 39 42 (.agg #[.string ⟨#[]⟩, .string ⟨#[]⟩, .slice none 0 0]) 3 56 (by kernel_rfl) (by kernel_rfl) (by decide) n hn w
theorem make23 (n : Nat) (hn : n ≤ 1024) (w : World) : (Instr.makeSlice 23 (.int .i64 n) (.int .i64 n)).run Ybad.prog w = .ok (.slice (some ⟨w.heap.size, 0, none⟩) n n) (w.alloc (.cells (madeCells #[.string ⟨#[]⟩] (n * 1)) 9)) :=
  make_of 23 9 (.string ⟨#[]⟩) 1 16 (by kernel_rfl) (by kernel_rfl) (by decide) n hn w

theorem below_setCells {B b : Nat} {w : World} (hb : B ≤ b) : ∀ (vs : List Value) (o : Nat) (w' : World), Below B w w' → Below B w (w'.setCells b o vs)
  | [], _, _, h => h
  | v :: r, o, w', h => by
    rw [World.setCells]
    exact below_setCells hb r (o + 1) _ (h.setCell (by exact hb) _)

theorem there_new (w : World) (C : Array Value) (t : TypeId) : (w.alloc (.cells C t)).there w.heap.size 0 C.size := fun j hj => by
  have hh := heap_alloc_new w (.cells C t)
  refine ⟨?_, frozen_of_row _ _ _ C t hh⟩
  rw [cell_of_row _ _ _ C t (0, 0) hh]
  simpa using hj

/-- Of n fields the first k are laid. -/
def FillAt (w : World) (b : Nat) (ns : List ByteArray) (k n : Nat) : Prop := w.there b 0 (n * 3) ∧ ∀ j, j < k →
  w.cell? ⟨b, j * 3, none⟩ = some (.string (ns.getD j ByteArray.empty)) ∧ w.cell? ⟨b, j * 3 + 1, none⟩ = some (.string ⟨#[]⟩) ∧ w.cell? ⟨b, j * 3 + 2, none⟩ = some (.slice none 0 0)

theorem fill_start (w : World) (z : Array Value) (ns : List ByteArray) (n : Nat) : FillAt (w.alloc (.cells (madeCells z (n * 3)) 42)) w.heap.size ns 0 n := by
  refine ⟨?_, fun j hj => by omega⟩
  have := there_new w (madeCells z (n * 3)) 42
  rwa [size_madeCells] at this
theorem FillAt.there3 {w : World} {b : Nat} {ns : List ByteArray} {k n : Nat} (h : FillAt w b ns k n) (hk : k < n) : w.there b (k * 3) 3 := fun j hj => by
  have := h.1 (k * 3 + j) (by omega)
  rwa [Nat.zero_add] at this
theorem FillAt.three {w : World} {b : Nat} {ns : List ByteArray} {k n : Nat} (h : FillAt w b ns k n) (hk : k < n) : (∃ v, w.cell? ⟨b, k * 3, none⟩ = some v) ∧ (∃ v, w.cell? ⟨b, k * 3 + 1, none⟩ = some v) ∧ (∃ v, w.cell? ⟨b, k * 3 + 2, none⟩ = some v)
    ∧ w.frozen? ⟨b, k * 3, none⟩ = false ∧ w.frozen? ⟨b, k * 3 + 1, none⟩ = false ∧ w.frozen? ⟨b, k * 3 + 2, none⟩ = false :=
  ⟨Option.isSome_iff_exists.1 (h.there3 hk 0 (by omega)).1, Option.isSome_iff_exists.1 (h.there3 hk 1 (by omega)).1, Option.isSome_iff_exists.1 (h.there3 hk 2 (by omega)).1, (h.there3 hk 0 (by omega)).2, (h.there3 hk 1 (by omega)).2, (h.there3 hk 2 (by omega)).2⟩
theorem FillAt.step {w : World} {b : Nat} {ns : List ByteArray} {k n : Nat} {x : ByteArray} (h : FillAt w b ns k n) (hk : k < n) (hx : x = ns.getD k ByteArray.empty) :
    FillAt (w.setCells b (k * 3) [.string x, .string ⟨#[]⟩, .slice none 0 0]) b ns (k + 1) n := by
  refine ⟨World.there_setCells h.1 _ _ _, fun j hj => ?_⟩
  rcases Nat.lt_or_ge j k with e | e
  · have hout : ∀ q, q < k * 3 → (w.setCells b (k * 3) [.string x, .string ⟨#[]⟩, .slice none 0 0]).cell? ⟨b, q, none⟩ = w.cell? ⟨b, q, none⟩ := fun q hq =>
      World.cell?_setCells_out b _ _ w _ (fun _ _ => Or.inl hq)
    rw [hout _ (by omega), hout _ (by omega), hout _ (by omega)]
    exact h.2 j e
  · obtain rfl : j = k := by omega
    have hin := World.cell?_setCells_in b [.string x, .string ⟨#[]⟩, .slice none 0 0] (j * 3) w (fun i hi => (h.there3 hk i (by simpa using hi)).1)
    rw [← hx]
    exact ⟨hin 0 (by simp), hin 1 (by simp), hin 2 (by simp)⟩
theorem FillAt.fields {w : World} {b : Nat} {ns : List ByteArray} {n : Nat} (h : FillAt w b ns n n) (hl : ns.length = n) : FieldsAt w b ns := fun j hj => h.2 j (by omega)

/-- Of n names the first k are laid. -/
def NamesAt (w : World) (b : Nat) (ns : List ByteArray) (n : Nat) : Prop := w.there b 0 n ∧ StrsAt w b ns
theorem names_start (w : World) (z : Array Value) (n : Nat) : NamesAt (w.alloc (.cells (madeCells z (n * 1)) 9)) w.heap.size [] n := by
  refine ⟨?_, fun j hj => by simp at hj⟩
  have := there_new w (madeCells z (n * 1)) 9
  rw [size_madeCells] at this
  rwa [show n * 1 = n from Nat.mul_one n] at this ⊢
theorem NamesAt.step {w : World} {b : Nat} {ns : List ByteArray} {n : Nat} (h : NamesAt w b ns n) (hk : ns.length < n) (x : ByteArray) :
    NamesAt (w.setCell ⟨b, ns.length, none⟩ (.string x)) b (ns ++ [x]) n := by
  refine ⟨World.there_setCells h.1 b ns.length [.string x], fun j hj => ?_⟩
  have hold := (h.1 ns.length hk).1
  rw [Nat.zero_add] at hold
  obtain ⟨u, hu⟩ := Option.isSome_iff_exists.1 hold
  by_cases e : j = ns.length
  · subst e
    rw [World.cell?_setCell_same _ _ _ hu]
    simp [List.getD]
  · have hj' : j < ns.length := by simp at hj; omega
    rw [World.cell?_setCell_other _ _ _ _ (fun h => e (by injection h with _ h2 _; exact h2.symm)), h.2 j hj']
    simp [List.getD, List.getElem?_append_left hj']
end Go.Proofs.YbulkbrpsDoor
