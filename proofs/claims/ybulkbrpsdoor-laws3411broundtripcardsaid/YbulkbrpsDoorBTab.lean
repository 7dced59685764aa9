/-
  THE TABLE OF discard.tree, as plain bytes, with what the walks want of it. No program text is looked into here.
-/
import Derived.WalkKit
import Derived.KernelRfl
namespace Go.Proofs.YbulkbrpsDoor
open Go

/-- The 39 class names, in code order. -/
def nmL : List (List UInt8) := [[108, 50], [108, 51], [108, 51, 47, 118, 52], [108, 51, 47, 118, 52, 47, 117, 110, 105, 99, 97, 115, 116], [108, 51, 47, 118, 52, 47, 109, 117, 108, 116, 105, 99, 97, 115, 116], [108, 51, 47, 118, 54], [108, 51, 47, 118, 54, 47, 117, 110, 105, 99, 97, 115, 116], [108, 51, 47, 118, 54, 47, 109, 117, 108, 116, 105, 99, 97, 115, 116], [101, 114, 114, 111, 114, 115], [101, 114, 114, 111, 114, 115, 47, 108, 50], [101, 114, 114, 111, 114, 115, 47, 108, 50, 47, 114, 120], [101, 114, 114, 111, 114, 115, 47, 108, 50, 47, 114, 120, 47, 99, 114, 99, 45, 101, 114, 114, 111, 114], [101, 114, 114, 111, 114, 115, 47, 108, 50, 47, 114, 120, 47, 105, 110, 118, 97, 108, 105, 100, 45, 109, 97, 99], [101, 114, 114, 111, 114, 115, 47, 108, 50, 47, 114, 120, 47, 105, 110, 118, 97, 108, 105, 100, 45, 118, 108, 97, 110], [101, 114, 114, 111, 114, 115, 47, 108, 50, 47, 114, 120, 47, 105, 110, 118, 97, 108, 105, 100, 45, 102, 114, 97, 109, 101], [101, 114, 114, 111, 114, 115, 47, 108, 50, 47, 116, 120], [101, 114, 114, 111, 114, 115, 47, 108, 51], [101, 114, 114, 111, 114, 115, 47, 108, 51, 47, 114, 120], [101, 114, 114, 111, 114, 115, 47, 108, 51, 47, 114, 120, 47, 99, 104, 101, 99, 107, 115, 117, 109, 45, 101, 114, 114, 111, 114], [101, 114, 114, 111, 114, 115, 47, 108, 51, 47, 114, 120, 47, 109, 116, 117, 45, 101, 120, 99, 101, 101, 100, 101, 100], [101, 114, 114, 111, 114, 115, 47, 108, 51, 47, 114, 120, 47, 105, 110, 118, 97, 108, 105, 100, 45, 112, 97, 99, 107, 101, 116], [101, 114, 114, 111, 114, 115, 47, 108, 51, 47, 116, 116, 108, 45, 101, 120, 112, 105, 114, 101, 100], [101, 114, 114, 111, 114, 115, 47, 108, 51, 47, 110, 111, 45, 114, 111, 117, 116, 101], [101, 114, 114, 111, 114, 115, 47, 108, 51, 47, 105, 110, 118, 97, 108, 105, 100, 45, 115, 105, 100], [101, 114, 114, 111, 114, 115, 47, 108, 51, 47, 105, 110, 118, 97, 108, 105, 100, 45, 108, 97, 98, 101, 108], [101, 114, 114, 111, 114, 115, 47, 108, 51, 47, 116, 120], [101, 114, 114, 111, 114, 115, 47, 105, 110, 116, 101, 114, 110, 97, 108], [101, 114, 114, 111, 114, 115, 47, 105, 110, 116, 101, 114, 110, 97, 108, 47, 112, 97, 114, 105, 116, 121, 45, 101, 114, 114, 111, 114], [112, 111, 108, 105, 99, 121], [112, 111, 108, 105, 99, 121, 47, 108, 50], [112, 111, 108, 105, 99, 121, 47, 108, 50, 47, 97, 99, 108], [112, 111, 108, 105, 99, 121, 47, 108, 51], [112, 111, 108, 105, 99, 121, 47, 108, 51, 47, 97, 99, 108], [112, 111, 108, 105, 99, 121, 47, 108, 51, 47, 112, 111, 108, 105, 99, 101, 114], [112, 111, 108, 105, 99, 121, 47, 108, 51, 47, 110, 117, 108, 108, 45, 114, 111, 117, 116, 101], [112, 111, 108, 105, 99, 121, 47, 108, 51, 47, 114, 112, 102], [112, 111, 108, 105, 99, 121, 47, 108, 51, 47, 100, 100, 111, 115], [110, 111, 45, 98, 117, 102, 102, 101, 114], [110, 111, 45, 98, 117, 102, 102, 101, 114, 47, 99, 108, 97, 115, 115]]

def nm (k : Nat) : ByteArray := ⟨(nmL.getD k []).toArray⟩

def tabV : Array Value := (nmL.map fun l => Value.string ⟨l.toArray⟩).toArray

theorem nmL_length : nmL.length = 39 := by decide +kernel

theorem tabV_size : tabV.size = 39 := by decide +kernel

theorem tabV_at (k : Nat) (hk : k < 39) : tabV[k]? = some (.string (nm k)) := by
  unfold tabV nm
  have h : k < nmL.length := by rw [nmL_length]; exact hk
  simp [List.getElem?_map, List.getElem?_eq_getElem h]

theorem nmL_nodup : nmL.Nodup := by decide +kernel

theorem nm_inj {i j : Nat} (hi : i < 39) (hj : j < 39) (h : nm i = nm j) : i = j := by
  have hi' : i < nmL.length := by rw [nmL_length]; exact hi
  have hj' : j < nmL.length := by rw [nmL_length]; exact hj
  have e : nmL[i] = nmL[j] := by
    have := congrArg (fun b : ByteArray => b.data.toList) h
    simpa [nm, List.getD, List.getElem?_eq_getElem hi', List.getElem?_eq_getElem hj'] using this
  have hp := List.pairwise_iff_getElem.1 nmL_nodup
  rcases Nat.lt_trichotomy i j with hlt | rfl | hlt
  · exact absurd e (hp i j hi' hj' hlt)
  · rfl
  · exact absurd e.symm (hp j i hj' hi' hlt)

theorem unknown_not (k : Nat) (hk : k < 39) : nm k ≠ ⟨#[117, 110, 107, 110, 111, 119, 110]⟩ := by
  intro h
  have hk' : k < nmL.length := by rw [nmL_length]; exact hk
  have e : nmL[k] = [117, 110, 107, 110, 111, 119, 110] := by
    have := congrArg (fun b : ByteArray => b.data.toList) h
    simpa [nm, List.getD, List.getElem?_eq_getElem hk'] using this
  have hm : [117, 110, 107, 110, 111, 119, 110] ∈ nmL := e ▸ List.getElem_mem hk'
  exact absurd hm (by decide +kernel)

/-- Either the name stands in the table, with a first place, or nowhere. -/
theorem first_or_none (s : ByteArray) : (∃ j, j < 39 ∧ nm j = s ∧ ∀ i, i < j → nm i ≠ s) ∨ ∀ i, i < 39 → nm i ≠ s := by
  by_cases h : ∃ j, j < 39 ∧ nm j = s
  · obtain ⟨j, hj, hs⟩ := h
    refine Or.inl ⟨j, hj, hs, fun i hi e => ?_⟩
    have := nm_inj (by omega) hj (e.trans hs.symm)
    omega
  · exact Or.inr fun i hi e => h ⟨i, hi, e⟩

end Go.Proofs.YbulkbrpsDoor
