/-
  THE PLAIN PART OF package record's TWO LAWS: where, behind the first k of a list of names, the first field of each element lies, and whether a name has come twice. No program is looked into here.
-/
import Derived.WalkKit
import Derived.KernelRfl
namespace Go.Proofs.YbulkbrpsDoor
open Go

def srcL : List (List UInt8) := [[102, 108, 111, 119, 68, 105, 115, 99, 97, 114, 100, 67, 108, 97, 115, 115], [102, 111, 114, 119, 97, 114, 100, 105, 110, 103, 69, 120, 99, 101, 112, 116, 105, 111, 110, 67, 111, 100, 101], [102, 111, 114, 119, 97, 114, 100, 105, 110, 103, 83, 116, 97, 116, 117, 115]]
def stL : List (List UInt8) := [[102, 108, 111, 119, 83, 116, 97, 114, 116, 78, 97, 110, 111, 115, 101, 99, 111, 110, 100, 115], [102, 108, 111, 119, 83, 116, 97, 114, 116, 77, 105, 99, 114, 111, 115, 101, 99, 111, 110, 100, 115], [102, 108, 111, 119, 83, 116, 97, 114, 116, 77, 105, 108, 108, 105, 115, 101, 99, 111, 110, 100, 115], [102, 108, 111, 119, 83, 116, 97, 114, 116, 83, 101, 99, 111, 110, 100, 115], [102, 108, 111, 119, 83, 116, 97, 114, 116, 83, 121, 115, 85, 112, 84, 105, 109, 101]]
def enL : List (List UInt8) := [[102, 108, 111, 119, 69, 110, 100, 78, 97, 110, 111, 115, 101, 99, 111, 110, 100, 115], [102, 108, 111, 119, 69, 110, 100, 77, 105, 99, 114, 111, 115, 101, 99, 111, 110, 100, 115], [102, 108, 111, 119, 69, 110, 100, 77, 105, 108, 108, 105, 115, 101, 99, 111, 110, 100, 115], [102, 108, 111, 119, 69, 110, 100, 83, 101, 99, 111, 110, 100, 115], [102, 108, 111, 119, 69, 110, 100, 83, 121, 115, 85, 112, 84, 105, 109, 101]]
def SRC (j : Nat) : ByteArray := ⟨(srcL.getD j []).toArray⟩
def ST (j : Nat) : ByteArray := ⟨(stL.getD j []).toArray⟩
def EN (j : Nat) : ByteArray := ⟨(enL.getD j []).toArray⟩

theorem allL_nodup : (srcL ++ stL ++ enL).Nodup := by decide +kernel

theorem bytes_inj {l l' : List UInt8} (h : (⟨l.toArray⟩ : ByteArray) = ⟨l'.toArray⟩) : l = l' := by
  simpa using congrArg (fun b : ByteArray => b.data.toList) h

theorem all_inj {i j : Nat} (hi : i < 13) (hj : j < 13) (h : (srcL ++ stL ++ enL).getD i [] = (srcL ++ stL ++ enL).getD j []) : i = j := by
  have hl : (srcL ++ stL ++ enL).length = 13 := by decide +kernel
  have hi' : i < (srcL ++ stL ++ enL).length := by omega
  have hj' : j < (srcL ++ stL ++ enL).length := by omega
  rw [List.getD_eq_getElem?_getD, List.getD_eq_getElem?_getD, List.getElem?_eq_getElem hi', List.getElem?_eq_getElem hj'] at h
  have hp := List.pairwise_iff_getElem.1 allL_nodup
  rcases Nat.lt_trichotomy i j with hlt | rfl | hlt
  · exact absurd h (hp i j hi' hj' hlt)
  · rfl
  · exact absurd h.symm (hp j i hj' hi' hlt)

theorem src_all (j : Nat) (h : j < 3) : (srcL ++ stL ++ enL).getD j [] = srcL.getD j [] := by
  match j, h with
  | 0, _ => rfl
  | 1, _ => rfl
  | 2, _ => rfl
theorem st_all (j : Nat) (h : j < 5) : (srcL ++ stL ++ enL).getD (3 + j) [] = stL.getD j [] := by
  match j, h with
  | 0, _ => rfl
  | 1, _ => rfl
  | 2, _ => rfl
  | 3, _ => rfl
  | 4, _ => rfl
theorem en_all (j : Nat) (h : j < 5) : (srcL ++ stL ++ enL).getD (8 + j) [] = enL.getD j [] := by
  match j, h with
  | 0, _ => rfl
  | 1, _ => rfl
  | 2, _ => rfl
  | 3, _ => rfl
  | 4, _ => rfl

theorem src_src {i j : Nat} (hi : i < 3) (hj : j < 3) (h : SRC i = SRC j) : i = j := by
  have := bytes_inj h
  rw [← src_all i hi, ← src_all j hj] at this
  exact all_inj (by omega) (by omega) this
theorem src_st {i j : Nat} (hi : i < 3) (hj : j < 5) : SRC i ≠ ST j := fun h => by
  have := bytes_inj h
  rw [← src_all i hi, ← st_all j hj] at this
  have := all_inj (by omega) (by omega) this
  omega
theorem src_en {i j : Nat} (hi : i < 3) (hj : j < 5) : SRC i ≠ EN j := fun h => by
  have := bytes_inj h
  rw [← src_all i hi, ← en_all j hj] at this
  have := all_inj (by omega) (by omega) this
  omega

/-- The place kept for the element s once the name x has come at place k. -/
def step (s x : ByteArray) (k : Nat) (v : Int) : Int := if x = s ∧ v < 0 then k else v
/-- The place kept for the element s behind the first k names: its first place, or -1. -/
def atTo (s : ByteArray) (ns : List ByteArray) : Nat → Int
  | 0 => -1
  | k + 1 => step s (ns.getD k ByteArray.empty) k (atTo s ns k)
/-- Does x stand among the first k names? -/
def among (ns : List ByteArray) (k : Nat) (x : ByteArray) : Prop := ∃ j, j < k ∧ ns.getD j ByteArray.empty = x
/-- Has a name come twice among the first k? -/
def twice (ns : List ByteArray) (k : Nat) : Prop := ∃ i, i < k ∧ among ns i (ns.getD i ByteArray.empty)
theorem twice_zero (ns : List ByteArray) : ¬ twice ns 0 := fun ⟨_, h, _⟩ => by omega
theorem twice_succ (ns : List ByteArray) (k : Nat) : twice ns (k + 1) ↔ twice ns k ∨ among ns k (ns.getD k ByteArray.empty) := by
  constructor
  · rintro ⟨i, hi, h⟩
    by_cases e : i = k
    · subst e; exact Or.inr h
    · exact Or.inl ⟨i, by omega, h⟩
  · rintro (⟨i, hi, h⟩ | h)
    · exact ⟨i, by omega, h⟩
    · exact ⟨k, by omega, h⟩

theorem atTo_range (s : ByteArray) (ns : List ByteArray) : ∀ k, -1 ≤ atTo s ns k ∧ atTo s ns k < k
  | 0 => by simp [atTo]
  | k + 1 => by
    have ih := atTo_range s ns k
    unfold atTo step
    split <;> omega

theorem step_other {s x : ByteArray} (h : x ≠ s) (k : Nat) (v : Int) : step s x k v = v := by
  simp [step, h]
theorem step_hit {s x : ByteArray} (h : x = s) {k : Nat} {v : Int} (hv : v < 0) : step s x k v = k := by
  simp [step, h, hv]
theorem step_kept {s x : ByteArray} {k : Nat} {v : Int} (hv : ¬ v < 0) : step s x k v = v := by
  simp [step, hv]

/-- The 14 cells of a 'positions'. -/
def posC (f g h : Nat → Int) (r : Bool) : Array Value :=
  #[.int .i32 (f 0), .int .i32 (f 1), .int .i32 (f 2), .int .i32 (f 3), .int .i32 (f 4), .int .i32 (g 0), .int .i32 (g 1), .int .i32 (g 2), .int .i32 (g 3), .int .i32 (g 4), .int .i32 (h 0), .int .i32 (h 1), .int .i32 (h 2), .bool r]
theorem posC_size (f g h : Nat → Int) (r : Bool) : (posC f g h r).size = 14 := rfl
theorem posC_f (f g h : Nat → Int) (r : Bool) (j : Nat) (hj : j < 5) : (posC f g h r)[j]? = some (.int .i32 (f j)) := by
  match j, hj with
  | 0, _ => rfl
  | 1, _ => rfl
  | 2, _ => rfl
  | 3, _ => rfl
  | 4, _ => rfl
theorem posC_g (f g h : Nat → Int) (r : Bool) (j : Nat) (hj : j < 5) : (posC f g h r)[5 + j]? = some (.int .i32 (g j)) := by
  match j, hj with
  | 0, _ => rfl
  | 1, _ => rfl
  | 2, _ => rfl
  | 3, _ => rfl
  | 4, _ => rfl
theorem posC_h (f g h : Nat → Int) (r : Bool) (j : Nat) (hj : j < 3) : (posC f g h r)[10 + j]? = some (.int .i32 (h j)) := by
  match j, hj with
  | 0, _ => rfl
  | 1, _ => rfl
  | 2, _ => rfl
theorem posC_r (f g h : Nat → Int) (r : Bool) : (posC f g h r)[13]? = some (.bool r) := rfl

/-- One value turned. -/
def upd (f : Nat → Int) (j : Nat) (v : Int) : Nat → Int := fun i => if i = j then v else f i
theorem posC_set_f (f g h : Nat → Int) (r : Bool) (j : Nat) (hj : j < 5) (v : Int) : (posC f g h r).setIfInBounds j (.int .i32 v) = posC (upd f j v) g h r := by
  match j, hj with
  | 0, _ => rfl
  | 1, _ => rfl
  | 2, _ => rfl
  | 3, _ => rfl
  | 4, _ => rfl
theorem posC_set_g (f g h : Nat → Int) (r : Bool) (j : Nat) (hj : j < 5) (v : Int) : (posC f g h r).setIfInBounds (5 + j) (.int .i32 v) = posC f (upd g j v) h r := by
  match j, hj with
  | 0, _ => rfl
  | 1, _ => rfl
  | 2, _ => rfl
  | 3, _ => rfl
  | 4, _ => rfl
theorem posC_set_h (f g h : Nat → Int) (r : Bool) (j : Nat) (hj : j < 3) (v : Int) : (posC f g h r).setIfInBounds (10 + j) (.int .i32 v) = posC f g (upd h j v) r := by
  match j, hj with
  | 0, _ => rfl
  | 1, _ => rfl
  | 2, _ => rfl
theorem posC_set_r (f g h : Nat → Int) (r r' : Bool) : (posC f g h r).setIfInBounds 13 (.bool r') = posC f g h r' := rfl

theorem posC_congr {f f' g g' h h' : Nat → Int} {r r' : Bool} (hf : ∀ j, j < 5 → f j = f' j) (hg : ∀ j, j < 5 → g j = g' j) (hh : ∀ j, j < 3 → h j = h' j) (hr : r = r') : posC f g h r = posC f' g' h' r' := by
  unfold posC
  rw [hf 0 (by decide), hf 1 (by decide), hf 2 (by decide), hf 3 (by decide), hf 4 (by decide), hg 0 (by decide), hg 1 (by decide), hg 2 (by decide), hg 3 (by decide), hg 4 (by decide), hh 0 (by decide), hh 1 (by decide), hh 2 (by decide), hr]

/-- WHAT A 'positions' HOLDS BEHIND THE FIRST k NAMES. -/
def posTo (ns : List ByteArray) (k : Nat) (r : Bool) : Array Value := posC (fun j => atTo (ST j) ns k) (fun j => atTo (EN j) ns k) (fun j => atTo (SRC j) ns k) r
end Go.Proofs.YbulkbrpsDoor
