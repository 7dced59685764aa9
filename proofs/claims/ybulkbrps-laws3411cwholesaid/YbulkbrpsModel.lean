/-
  elements.zzs3411cmodel: the first row of the table that bears the ids, or none.
-/
import Derived.Test.YbulkbrpsTable
import Derived.RegionTactic
namespace Go.Proofs.Ybulkbrps
open Go Go.RowKit

theorem at0 (i : Nat) (h : i < 35) : CELLS[i * 4]? = some (.int .u32 (ent i)) := by rw [Nat.mul_comm]; exact cell0 i h
theorem at1 (i : Nat) (h : i < 35) : CELLS[i * 4 + 1]? = some (.int .u16 (el i)) := by rw [Nat.mul_comm]; exact cell1 i h
theorem at2 (i : Nat) (h : i < 35) : CELLS[i * 4 + 2]? = some (.string (name i)) := by rw [Nat.mul_comm]; exact cell2 i h
theorem at3 (i : Nat) (h : i < 35) : CELLS[i * 4 + 3]? = some (.string (typ i)) := by rw [Nat.mul_comm]; exact cell3 i h

theorem drewN_below {B : Nat} {a w : World} (h : Below B a w) (n : Nat) : Below B a (w.drewN n) := ⟨h.os, h.tape, h.output, h.size, h.block⟩

set_option maxRecDepth 10000 in
set_option maxHeartbeats 400000 in
theorem cmodel_hit (x y : Int) (w : World) (j : Nat) (hj : j < 35) (h1 : ent j = x) (h2 : el j = y) (hno : ∀ i, i < j → ¬ (ent i = x ∧ el i = y)) :
    Calls Yba.prog 7 #[.int .u32 x, .int .u16 y] w fun e w' => e = .returned (.tuple #[.agg #[.string (name j), .string (typ j)], .bool true]) ∧ Below w.heap.size w w' := by
  have HN : Hid (∀ i, i < j → ¬ (ent i = x ∧ el i = y)) := hno
  have H1 : Hid (ent j = x) := h1
  have H2 : Hid (el j = y) := h2
  clear hno h1 h2
  go_enter Yba.func7, Yba.ntmps7
  go_wp2_with (go_at_call 8; refine (ctable_any _).mono ?_; rintro e w' ⟨rfl, rfl⟩)
  go_loop [7] (fun i => ∃ q : Nat, q ≤ j ∧ i = .int .i64 q) (fun i => 35 - (intOf i).toNat)
  case atStart => exact ⟨0, Nat.zero_le _, rfl⟩
  case round =>
    obtain ⟨q, hq, rfl⟩ := hrel
    have c0 := at0 q (by omega)
    have c1 := at1 q (by omega)
    have c2 := at2 q (by omega)
    have c3 := at3 q (by omega)
    by_cases hlt : q < j
    · by_cases hx : ent q = x
      · have hx' : (ent q == x) = true := by simpa using hx
        have hy' : (el q == y) = false := beq_eq_false_iff_ne.2 fun e => HN.out q hlt ⟨hx, e⟩
        clear hx
        go_wp2
        go_round
        case rel => exact ⟨q + 1, by omega, by go_num⟩
        case measure => simp [intOf]; omega
      · have hx' : (ent q == x) = false := beq_eq_false_iff_ne.2 hx
        clear hx
        go_wp2
        go_round
        case rel => exact ⟨q + 1, by omega, by go_num⟩
        case measure => simp [intOf]; omega
    · have hqj : q = j := by omega
      subst hqj
      have hx' : (ent q == x) = true := by simpa using H1.out
      have hy' : (el q == y) = true := by simpa using H2.out
      go_wp2
      go_region
      all_goals
        go_wp2
        exact bodyPost_ret (v := .tuple #[.agg #[.string (name q), .string (typ q)], .bool true]) (by simp [results, Yba.results7, go_sem]) rfl ⟨rfl, by repeat (first | exact Below.refl _ _ | refine Below.drew ?_ | refine Below.setCell ?_ (by simp) _ | refine Below.alloc ?_ (by simp) _)⟩

set_option maxRecDepth 10000 in
set_option maxHeartbeats 400000 in
theorem cmodel_miss (x y : Int) (w : World) (hno : ∀ i, i < 35 → ¬ (ent i = x ∧ el i = y)) :
    Calls Yba.prog 7 #[.int .u32 x, .int .u16 y] w fun e w' => e = .returned (.tuple #[.agg #[.string ⟨#[]⟩, .string ⟨#[]⟩], .bool false]) ∧ Below w.heap.size w w' := by
  have HN : Hid (∀ i, i < 35 → ¬ (ent i = x ∧ el i = y)) := hno
  clear hno
  go_enter Yba.func7, Yba.ntmps7
  go_wp2_with (go_at_call 8; refine (ctable_any _).mono ?_; rintro e w' ⟨rfl, rfl⟩)
  go_loop [7] (fun i => ∃ q : Nat, q ≤ 35 ∧ i = .int .i64 q) (fun i => 35 - (intOf i).toNat)
  case atStart => exact ⟨0, Nat.zero_le _, rfl⟩
  case round =>
    obtain ⟨q, hq, rfl⟩ := hrel
    by_cases hlt : q < 35
    · have c0 := at0 q (by omega)
      have c1 := at1 q (by omega)
      by_cases hx : ent q = x
      · have hx' : (ent q == x) = true := by simpa using hx
        have hy' : (el q == y) = false := beq_eq_false_iff_ne.2 fun e => HN.out q hlt ⟨hx, e⟩
        clear hx
        go_wp2
        go_round
        case rel => exact ⟨q + 1, by omega, by go_num⟩
        case measure => simp [intOf]; omega
      · have hx' : (ent q == x) = false := beq_eq_false_iff_ne.2 hx
        clear hx
        go_wp2
        go_round
        case rel => exact ⟨q + 1, by omega, by go_num⟩
        case measure => simp [intOf]; omega
    · go_wp2
      exact bodyPost_ret (v := .tuple #[.agg #[.string ⟨#[]⟩, .string ⟨#[]⟩], .bool false]) (by simp [results, Yba.results7, go_sem]) rfl ⟨rfl, by repeat (first | exact Below.refl _ _ | refine Below.drew ?_ | refine Below.setCell ?_ (by simp) _ | refine Below.alloc ?_ (by simp) _)⟩
end Go.Proofs.Ybulkbrps
