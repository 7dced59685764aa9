/-
  package record's SMALL CALLEES: discard.Precedence, nameMark, fieldIndex.
-/
import Derived.Test.YbulkbrpsDoorProg
import Derived.Test.YbulkbrpsDoorAPlain
import Derived.WalkKit
import Derived.WalkSpells
import Derived.WalkLawsBesides
import Derived.BigQuiet
import Derived.Deep.QuietTactic
namespace Go.Proofs.YbulkbrpsDoor
open Go.RowKit

theorem eqS {a b : ByteArray} (h : a = b) : (a.toList == b.toList) = true := by subst h; simp
theorem neS {a b : ByteArray} (h : a ≠ b) : (a.toList == b.toList) = false := by
  refine beq_eq_false_iff_ne.2 fun e => h ?_
  rw [ByteArray.toList_eq, ByteArray.toList_eq] at e
  cases a; cases b
  exact congrArg ByteArray.mk (Array.toList_inj.1 e)
theorem eqL {a : ByteArray} {l : List UInt8} (h : a = ⟨l.toArray⟩) : (a.toList == l) = true := by subst h; simp [ByteArray.toList_eq]
theorem neL {a : ByteArray} {l : List UInt8} (h : a ≠ ⟨l.toArray⟩) : (a.toList == l) = false := by
  refine beq_eq_false_iff_ne.2 fun e => h ?_
  rw [ByteArray.toList_eq] at e
  cases a
  subst e
  simp

/-! ### discard.Precedence -/
theorem prec_hit (j : Nat) (hj : j < 3) (w : World) :
    Calls Ybad.prog 15 #[.string (SRC j)] w fun e w' => e = .returned (.tuple #[.int .i64 j, .bool true]) ∧ w' = w := by
  match j, hj with
  | 0, _ =>
    have h0 : ((SRC 0).toList == [102, 108, 111, 119, 68, 105, 115, 99, 97, 114, 100, 67, 108, 97, 115, 115]) = true := eqL rfl
    generalize SRC 0 = x at *
    go_enter Ybad.func15, Ybad.ntmps15
    go_wp2
    go_ret2
    exact ⟨rfl, rfl⟩
  | 1, _ =>
    have h0 : ((SRC 1).toList == [102, 108, 111, 119, 68, 105, 115, 99, 97, 114, 100, 67, 108, 97, 115, 115]) = false := neL (fun h => absurd (src_src (i := 1) (j := 0) (by decide) (by decide) h) (by decide))
    have h1 : ((SRC 1).toList == [102, 111, 114, 119, 97, 114, 100, 105, 110, 103, 69, 120, 99, 101, 112, 116, 105, 111, 110, 67, 111, 100, 101]) = true := eqL rfl
    generalize SRC 1 = x at *
    go_enter Ybad.func15, Ybad.ntmps15
    go_wp2
    go_ret2
    exact ⟨rfl, rfl⟩
  | 2, _ =>
    have h0 : ((SRC 2).toList == [102, 108, 111, 119, 68, 105, 115, 99, 97, 114, 100, 67, 108, 97, 115, 115]) = false := neL (fun h => absurd (src_src (i := 2) (j := 0) (by decide) (by decide) h) (by decide))
    have h1 : ((SRC 2).toList == [102, 111, 114, 119, 97, 114, 100, 105, 110, 103, 69, 120, 99, 101, 112, 116, 105, 111, 110, 67, 111, 100, 101]) = false := neL (fun h => absurd (src_src (i := 2) (j := 1) (by decide) (by decide) h) (by decide))
    have h2 : ((SRC 2).toList == [102, 111, 114, 119, 97, 114, 100, 105, 110, 103, 83, 116, 97, 116, 117, 115]) = true := eqL rfl
    generalize SRC 2 = x at *
    go_enter Ybad.func15, Ybad.ntmps15
    go_wp2
    go_ret2
    exact ⟨rfl, rfl⟩

theorem prec_miss (x : ByteArray) (hx : ∀ j, j < 3 → x ≠ SRC j) (w : World) :
    Calls Ybad.prog 15 #[.string x] w fun e w' => e = .returned (.tuple #[.int .i64 0, .bool false]) ∧ w' = w := by
  have h0 : (x.toList == [102, 108, 111, 119, 68, 105, 115, 99, 97, 114, 100, 67, 108, 97, 115, 115]) = false := neL (hx 0 (by decide))
  have h1 : (x.toList == [102, 111, 114, 119, 97, 114, 100, 105, 110, 103, 69, 120, 99, 101, 112, 116, 105, 111, 110, 67, 111, 100, 101]) = false := neL (hx 1 (by decide))
  have h2 : (x.toList == [102, 111, 114, 119, 97, 114, 100, 105, 110, 103, 83, 116, 97, 116, 117, 115]) = false := neL (hx 2 (by decide))
  clear hx
  go_enter Ybad.func15, Ybad.ntmps15
  go_wp2
  go_ret2
  exact ⟨rfl, rfl⟩

/-! ### nameMark -/
def byteAt (s : ByteArray) (i : Nat) : Int := if h : i < s.size then (s[i].toNat : Int) else 0
theorem byteAt_range (s : ByteArray) (i : Nat) : 0 ≤ byteAt s i ∧ byteAt s i ≤ 255 := by
  unfold byteAt
  split
  · rename_i h
    have := s[i].toNat_lt
    omega
  · omega
theorem run_byte (s : ByteArray) (i : Nat) (h : i < s.size) (w : World) : (Instr.index 9 (.string s) (.int .i64 i)).run Ybad.prog w = .ok (.int .u8 (byteAt s i)) w := by
  simp [go_sem, h, byteAt]

/-- The mark of a name, a number from 0 to 255: a function of the name. -/
def mark (s : ByteArray) : Nat :=
  if s.size = 0 then 0 else (wrap64 (wrap64 (wrap64 (wrap64 (↑s.size * 31) + byteAt s 0 * 7) + byteAt s (s.size / 2) * 5) + byteAt s (s.size - 1) * 3) % 256).toNat
theorem mark_lt (s : ByteArray) : mark s < 256 := by
  unfold mark
  split <;> omega

theorem ret_u8 {a b : Int} (h : a = b) : Ending.returned (.int .u8 a) = .returned (.int .u8 b) := by rw [h]

theorem mark_any (s : ByteArray) (w : World) (hs : s.size ≤ maxLen) :
    Calls Ybad.prog 16 #[.string s] w fun e w' => e = .returned (.int .u8 (mark s)) ∧ ∃ n, w' = w.drewN n := by
  unfold maxLen at hs
  by_cases h0 : s.size = 0
  · have hb : ((s.size : Int) == 0) = true := by simpa using h0
    have hm : mark s = 0 := by simp [mark, h0]
    clear h0
    go_enter Ybad.func16, Ybad.ntmps16
    go_wp2
    go_ret
    exact ⟨ret_u8 (by rw [hm]; rfl), 0, rfl⟩
  · have hb : ((s.size : Int) == 0) = false := by simpa using h0
    have hm : Hid ((mark s : Int) = wrap64 (wrap64 (wrap64 (wrap64 (↑s.size * 31) + byteAt s 0 * 7) + byteAt s (s.size / 2) * 5) + byteAt s (s.size - 1) * 3) % 256) := by
      show _ = _
      unfold mark
      rw [if_neg h0]
      omega
    have i0 := run_byte s 0 (by omega)
    have i1 := run_byte s (s.size / 2) (by omega)
    have i2 := run_byte s (s.size - 1) (by omega)
    have e2 : ((s.size - 1 : Nat) : Int) = (s.size : Int) - 1 := by omega
    rw [e2] at i2
    have e1 : ((s.size / 2 : Nat) : Int) = (s.size : Int) / 2 := by omega
    rw [e1] at i1
    have r0 := byteAt_range s 0
    have r1 := byteAt_range s (s.size / 2)
    have r2 := byteAt_range s (s.size - 1)
    generalize byteAt s 0 = b0 at *
    generalize byteAt s (s.size / 2) = b1 at *
    generalize byteAt s (s.size - 1) = b2 at *
    simp only [Int.cast_ofNat_Int] at i0
    clear e1 e2 h0
    go_enter Ybad.func16, Ybad.ntmps16
    go_wp2
    go_quiet (fail)
    go_wp2
    go_ret
    exact ⟨ret_u8 hm.out.symm, _, rfl⟩

/-! ### fieldIndex -/
/-- The fields' cells: three a field. -/
def FieldsAt (w : World) (b : Nat) (ns : List ByteArray) : Prop := ∀ j, j < ns.length →
  w.cell? ⟨b, j * 3, none⟩ = some (.string (ns.getD j ByteArray.empty)) ∧ w.cell? ⟨b, j * 3 + 1, none⟩ = some (.string ⟨#[]⟩) ∧ w.cell? ⟨b, j * 3 + 2, none⟩ = some (.slice none 0 0)

theorem FieldsAt.later {w w' : World} {b : Nat} {ns : List ByteArray} (h : FieldsAt w b ns) {B : Nat} (hb : Below B w w') (hlt : b < B) : FieldsAt w' b ns := fun j hj => by
  obtain ⟨h1, h2, h3⟩ := h j hj
  exact ⟨by rw [hb.cell (p := ⟨b, j * 3, none⟩) hlt]; exact h1, by rw [hb.cell (p := ⟨b, j * 3 + 1, none⟩) hlt]; exact h2, by rw [hb.cell (p := ⟨b, j * 3 + 2, none⟩) hlt]; exact h3⟩

theorem fidx_hit (ns : List ByteArray) (b k cap : Nat) (x : ByteArray) (w : World) (hk : k ≤ ns.length) (hn : ns.length ≤ 1024) (hf : FieldsAt w b ns) (hb : b < w.heap.size) (j : Nat) (hj : j < k) (hx : ns.getD j ByteArray.empty = x) (hno : ∀ i, i < j → ns.getD i ByteArray.empty ≠ x) :
    Calls Ybad.prog 17 #[.slice (some ⟨b, 0, none⟩) k cap, .string x] w fun e w' => e = .returned (.int .i64 j) ∧ Below w.heap.size w w' := by
  have HF : Hid (FieldsAt w b ns) := hf
  have HX : Hid (ns.getD j ByteArray.empty = x) := hx
  have HN : Hid (∀ i, i < j → ns.getD i ByteArray.empty ≠ x) := hno
  clear hf hx hno
  go_enter Ybad.func17, Ybad.ntmps17
  go_wp2
  go_loopw [9] (fun i wr => ∃ q : Nat, q ≤ j ∧ i = .int .i64 q ∧ Below w.heap.size w wr) (fun i _ => k - (intOf i).toNat)
  case atStart => exact ⟨0, Nat.zero_le _, rfl, Below.refl _ _⟩
  case round =>
    obtain ⟨q, hq, rfl, hbr⟩ := hrel
    rename_i wr
    have HB : Hid (Below w.heap.size w wr) := hbr
    obtain ⟨c0, c1, c2⟩ := HF.out.later hbr hb q (by omega)
    have hsz := hbr.size
    clear hbr
    by_cases hlt : q < j
    · have hne := neS (HN.out q hlt)
      generalize ns.getD q ByteArray.empty = y at *
      go_wp2
      go_roundw
      case rel => exact ⟨q + 1, by omega, by go_num, HB.out.alloc (by omega) _⟩
      case measure => simp [intOf]; omega
    · have hqj : q = j := by omega
      subst hqj
      have hne := eqS HX.out
      generalize ns.getD q ByteArray.empty = y at *
      go_wp2
      go_ret
      exact ⟨rfl, HB.out.alloc (by omega) _⟩

theorem fidx_miss (ns : List ByteArray) (b k cap : Nat) (x : ByteArray) (w : World) (hk : k ≤ ns.length) (hn : ns.length ≤ 1024) (hf : FieldsAt w b ns) (hb : b < w.heap.size) (hno : ∀ i, i < k → ns.getD i ByteArray.empty ≠ x) :
    Calls Ybad.prog 17 #[.slice (some ⟨b, 0, none⟩) k cap, .string x] w fun e w' => e = .returned (.int .i64 (-1)) ∧ Below w.heap.size w w' := by
  have HF : Hid (FieldsAt w b ns) := hf
  have HN : Hid (∀ i, i < k → ns.getD i ByteArray.empty ≠ x) := hno
  clear hf hno
  go_enter Ybad.func17, Ybad.ntmps17
  go_wp2
  go_loopw [9] (fun i wr => ∃ q : Nat, q ≤ k ∧ i = .int .i64 q ∧ Below w.heap.size w wr) (fun i _ => k - (intOf i).toNat)
  case atStart => exact ⟨0, Nat.zero_le _, rfl, Below.refl _ _⟩
  case round =>
    obtain ⟨q, hq, rfl, hbr⟩ := hrel
    rename_i wr
    have HB : Hid (Below w.heap.size w wr) := hbr
    have hsz := hbr.size
    by_cases hlt : q < k
    · obtain ⟨c0, c1, c2⟩ := HF.out.later hbr hb q (by omega)
      clear hbr
      have hne := neS (HN.out q hlt)
      generalize ns.getD q ByteArray.empty = y at *
      go_wp2
      go_roundw
      case rel => exact ⟨q + 1, by omega, by go_num, HB.out.alloc (by omega) _⟩
      case measure => simp [intOf]; omega
    · clear hbr
      go_wp2
      go_ret
      exact ⟨rfl, HB.out⟩
end Go.Proofs.YbulkbrpsDoor
