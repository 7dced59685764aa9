/-
  zzs3411acheck's STATEMENT 'got != zzs3411amodel(names)': ONE REGION THAT DRAWS ITS ORDER AND HOLDS A CALL, walked by an invariant.
-/
import Derived.Test.YbulkbrpsDoorARegion
import Derived.Test.YbulkbrpsDoorASame
import Derived.Deep.MidRow
namespace Go.Proofs.YbulkbrpsDoor
open Go.RowKit

def c8_0 (ops : Array Oper) : Bool := match ops[0]? with
  | some o => decide (o.guard = none) && decide (o.dst = some 26) && (match o.op with
    | .load 46 (.tmp 5) => true
    | _ => false)
  | _ => false
theorem i8_0 {ops : Array Oper} (h : c8_0 ops = true) : ∃ o, ops[0]? = some o ∧ o.guard = none ∧ o.dst = some 26 ∧ o.op = .load 46 (.tmp 5) := by
  unfold c8_0 at h
  split at h
  · rename_i o ho
    simp only [Bool.and_eq_true, decide_eq_true_eq] at h
    obtain ⟨⟨h1, h2⟩, h3⟩ := h
    split at h3
    · rename_i hop
      exact ⟨o, ho, h1, h2, hop⟩
    · cases h3
  · cases h
def c8_1 (ops : Array Oper) : Bool := match ops[1]? with
  | some o => decide (o.guard = none) && decide (o.dst = some 27) && (match o.op with
    | .move (.tmp 0) => true
    | _ => false)
  | _ => false
theorem i8_1 {ops : Array Oper} (h : c8_1 ops = true) : ∃ o, ops[1]? = some o ∧ o.guard = none ∧ o.dst = some 27 ∧ o.op = .move (.tmp 0) := by
  unfold c8_1 at h
  split at h
  · rename_i o ho
    simp only [Bool.and_eq_true, decide_eq_true_eq] at h
    obtain ⟨⟨h1, h2⟩, h3⟩ := h
    split at h3
    · rename_i hop
      exact ⟨o, ho, h1, h2, hop⟩
    · cases h3
  · cases h
def c8_2 (ops : Array Oper) : Bool := match ops[2]? with
  | some o => decide (o.guard = none) && decide (o.dst = some 28) && waits o 1 && (match o.op with
    | .call ⟨.value (.func 14), ⟨[.tmp 27]⟩, ⟨[23]⟩⟩ => true
    | _ => false)
  | _ => false
theorem i8_2 {ops : Array Oper} (h : c8_2 ops = true) : ∃ o, ops[2]? = some o ∧ o.guard = none ∧ o.dst = some 28 ∧ waits o 1 = true ∧ o.op = .call { callee := .value (.func 14), args := #[.tmp 27], argTypes := #[23] } := by
  unfold c8_2 at h
  split at h
  · rename_i o ho
    simp only [Bool.and_eq_true, decide_eq_true_eq] at h
    obtain ⟨⟨⟨h1, h2⟩, d1⟩, h3⟩ := h
    split at h3
    · rename_i hop
      exact ⟨o, ho, h1, h2, d1, hop⟩
    · cases h3
  · cases h
def c8_3 (ops : Array Oper) : Bool := match ops[3]? with
  | some o => decide (o.guard = none) && decide (o.dst = some 29) && waits o 0 && waits o 2 && (match o.op with
    | .binOp .neq 46 (.tmp 26) (.tmp 28) 46 => true
    | _ => false)
  | _ => false
theorem i8_3 {ops : Array Oper} (h : c8_3 ops = true) : ∃ o, ops[3]? = some o ∧ o.guard = none ∧ o.dst = some 29 ∧ waits o 0 = true ∧ waits o 2 = true ∧ o.op = .binOp .neq 46 (.tmp 26) (.tmp 28) 46 := by
  unfold c8_3 at h
  split at h
  · rename_i o ho
    simp only [Bool.and_eq_true, decide_eq_true_eq] at h
    obtain ⟨⟨⟨⟨h1, h2⟩, d0⟩, d2⟩, h3⟩ := h
    split at h3
    · rename_i hop
      exact ⟨o, ho, h1, h2, d0, d2, hop⟩
    · cases h3
  · cases h

structure R8 (a0 : Act) (W0 : World) (M : World → Prop) (vs : List Value) (L : Nat → Bool) (a : Act) (w : World) : Prop where
  size : a.tmps.size = 62
  defers : a.defers = []
  slot : ∀ i, i < 4 → L i = true → a.tmps[26 + i]? = vs[i]?
  other : ∀ t, t < 26 ∨ 30 ≤ t → a.tmps[t]? = a0.tmps[t]?
  world : (L 2 = false ∧ w = W0) ∨ (L 2 = true ∧ M w)

theorem R8.put {a0 : Act} {W0 : World} {M : World → Prop} {vs : List Value} {L : Nat → Bool} {a : Act} {w w' : World} (I : R8 a0 W0 M vs L a w) (i : Nat) (hi : i < 4) {v : Value} (hv : vs[i]? = some v) {d : Option Nat} (hd : d = some (26 + i))
    (hw : ((decide (2 = i) || L 2) = false ∧ w' = W0) ∨ ((decide (2 = i) || L 2) = true ∧ M w')) : R8 a0 W0 M vs (fun j => decide (j = i) || L j) (a.put d v) w' := by
  subst hd
  refine ⟨by rw [put_size]; exact I.size, I.defers, fun j hj hL => ?_, fun t ht => ?_, hw⟩
  · by_cases e : j = i
    · subst e; rw [put_same _ _ _ (by rw [I.size]; omega), hv]
    · rw [put_other _ _ _ _ (by omega)]
      exact I.slot j hj (by simpa [e] using hL)
  · rw [put_other _ _ _ _ (by omega)]; exact I.other t ht

set_option maxHeartbeats 1000000 in
theorem region8 {ops : Array Oper} {Q : Exit → Act → World → Prop} {id : Nat} {a0 : Act} {W0 : World} (hm : Ybad.prog.follows .mixedOrders = true) (hsize : ops.size = 4) (hback : ((List.range 4).all (chkBack ops)) = true) (k0 : c8_0 ops = true) (k1 : c8_1 ops = true) (k2 : c8_2 ops = true) (k3 : c8_3 ops = true)
    (bn n gb : Nat) (f g h : Nat → Int) (r : Bool) (M : World → Prop)
    (hs : a0.tmps.size = 62) (hd : a0.defers = []) (s0 : a0.tmps[0]? = some (.slice (some ⟨bn, 0, none⟩) n n)) (s5 : a0.tmps[5]? = some (.pointer (some ⟨gb, 0, none⟩)))
    (hP0 : PAt W0.drew gb f g h r) (hP : ∀ w, M w → PAt w gb f g h r) (heg : Ybad.prog.eqGuardType Ybad.prog.depth 46 = false)
    (hc : Calls Ybad.prog 14 #[.slice (some ⟨bn, 0, none⟩) n n] W0.drew fun e w' => e = .returned (.agg (posC f g h r)) ∧ M w')
    (hK : ∀ (v0 v1 v2 : Value) (w' : World), M w' → Q .normal (putFrom a0 26 [v0, v1, v2, .bool false]) w') :
    (Code.region id ops true).wp Ybad.prog Q a0 W0 := by
  refine wp_region_inv hm (R8 a0 W0.drew M [.agg (posC f g h r), .slice (some ⟨bn, 0, none⟩) n n, .agg (posC f g h r), .bool false]) ?_ ⟨hs, hd, by simp, fun _ _ => rfl, Or.inl ⟨rfl, rfl⟩⟩ ?_ ?_
  · intro i o ho e he hb
    have hi : i < 4 := by rw [← hsize]; exact (Array.getElem?_eq_some_iff.1 ho).1
    have := List.all_eq_true.1 hback i (List.mem_range.2 hi)
    unfold chkBack at this
    rw [ho] at this
    have := List.all_eq_true.1 this e (by simpa using he)
    simpa [hb] using this
  · intro L a w i o I ho hLi hL
    have hi : i < 4 := by rw [← hsize]; exact (Array.getElem?_eq_some_iff.1 ho).1
    have base : ∀ t v, t < 26 → a0.tmps[t]? = some v → a.eval (.tmp t) = v := fun t v ht hv => eval_tmp ((I.other t (Or.inl ht)).trans hv)
    have wantN : o.guard = none → Region.wanted o (yielded ops a.tmps) = true := fun hg => by simp [Region.wanted, hg]
    have hPw : PAt w gb f g h r := by
      rcases I.world with ⟨_, rfl⟩ | ⟨_, hM⟩
      · exact hP0
      · exact hP w hM
    have hcases : i = 0 ∨ i = 1 ∨ i = 2 ∨ i = 3 := by omega
    rcases hcases with rfl | rfl | rfl | rfl
    · obtain ⟨o', ho', g', d, hop⟩ := i8_0 k0
      rw [ho] at ho'; cases ho'
      refine wpOp_value ho (wantN g') (w' := w) (v := .agg (posC f g h r)) ?_ ?_
      · have hr : w.rangeAt gb 0 (posC f g h r).toList := fun j v hv => by
          rw [cell_of_row w gb (0 + j) _ 46 (0, 0) hPw, Nat.zero_add]
          simpa using hv
        have hl := run_loadAt_mid (P := Ybad.prog) w gb 0 46 (posC f g h r).toList _ hr Ybad.underlying46 rfl (by kernel_rfl)
        simp only [execOp, hop, base 5 _ (by decide) s5, Sem.run_bind, hl, Result.andThen_ok]; rfl
      · exact I.put 0 (by decide) rfl d (by simpa using I.world)
    · obtain ⟨o', ho', g', d, hop⟩ := i8_1 k1
      rw [ho] at ho'; cases ho'
      refine wpOp_value ho (wantN g') (w' := w) (v := .slice (some ⟨bn, 0, none⟩) n n) ?_ ?_
      · simp only [execOp, hop, base 0 _ (by decide) s0]; rfl
      · exact I.put 1 (by decide) rfl d (by simpa using I.world)
    · obtain ⟨o', ho', g', d, d1, hop⟩ := i8_2 k2
      rw [ho] at ho'; cases ho'
      have l1 := waits_spec d1 hL
      have e27 : a.eval (.tmp 27) = .slice (some ⟨bn, 0, none⟩) n n := eval_tmp (I.slot 1 (by decide) l1)
      have hw0 : w = W0.drew := by
        rcases I.world with ⟨_, e⟩ | ⟨h2, _⟩
        · exact e
        · rw [h2] at hLi; cases hLi
      subst hw0
      refine wpOp_enter ho (wantN g') (f := 14) (args := #[.slice (some ⟨bn, 0, none⟩) n n]) ?_ hc ?_
      · simp [execOp, hop, resolve, Deferred.ofValue, invoke, e27]
        simp [Act.eval]
      · intro w' hM
        exact I.put 2 (by decide) rfl d (Or.inr ⟨rfl, hM⟩)
    · obtain ⟨o', ho', g', d, d0, d2, hop⟩ := i8_3 k3
      rw [ho] at ho'; cases ho'
      have e26 : a.eval (.tmp 26) = .agg (posC f g h r) := eval_tmp (I.slot 0 (by decide) (waits_spec d0 hL))
      have e28 : a.eval (.tmp 28) = .agg (posC f g h r) := eval_tmp (I.slot 2 (by decide) (waits_spec d2 hL))
      refine wpOp_value ho (wantN g') (w' := w) (v := .bool false) ?_ ?_
      · simp only [execOp, hop, e26, e28, Sem.run_bind, run_eqGuard_agg w .neq 46 _ _ _ _ heg, Result.andThen_ok, neq46_self f g h r w]; rfl
      · exact I.put 3 (by decide) rfl d (by simpa using I.world)
  · intro L a w I hall
    have hL2 := hall 2 (by omega)
    rcases I.world with ⟨h2, _⟩ | ⟨_, hM⟩
    · rw [h2] at hL2; cases hL2
    · have ha : a = putFrom a0 26 [.agg (posC f g h r), .slice (some ⟨bn, 0, none⟩) n n, .agg (posC f g h r), .bool false] := by
        have htm : a.tmps = (putFrom a0 26 [.agg (posC f g h r), .slice (some ⟨bn, 0, none⟩) n n, .agg (posC f g h r), .bool false]).tmps := by
          apply Array.ext_getElem?
          intro t
          rw [putFrom_get _ _ _ _ (by rw [hs]; simp)]
          by_cases ht : 26 ≤ t ∧ t < 26 + 4
          · rw [if_pos (by simpa using ht)]
            obtain ⟨d, rfl⟩ : ∃ d, t = 26 + d := ⟨t - 26, by omega⟩
            rw [I.slot d (by omega) (hall d (by omega)), show 26 + d - 26 = d by omega]
          · rw [if_neg (by simpa using ht)]; exact I.other t (by omega)
        have hdf : a.defers = (putFrom a0 26 [.agg (posC f g h r), .slice (some ⟨bn, 0, none⟩) n n, .agg (posC f g h r), .bool false]).defers := by rw [putFrom_defers, I.defers, hd]
        cases a
        simp only at htm hdf
        rw [htm, hdf]
      rw [ha]
      exact hK _ _ _ w hM
end Go.Proofs.YbulkbrpsDoor
