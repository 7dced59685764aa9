/-
  A REGION THAT DRAWS ITS ORDER, WALKED BY AN INVARIANT: one step a KIND of operation, whatever their number, whatever the order. ('L i': operation i has come up.)
-/
import Derived.Orders
import Derived.WalkKit
namespace Go.Proofs.YbulkbrpsDoor
open Go

theorem getD_setTrue (listed : Array Bool) (i j : Nat) (hi : i < listed.size) : (listed.setIfInBounds i true).getD j false = (decide (j = i) || listed.getD j false) := by
  by_cases h : j = i
  · subst h; simp [hi]
  · simp [h, Array.getElem?_setIfInBounds_ne (Ne.symm h)]

/-- How many have not come up yet. -/
def left (listed : Array Bool) : Nat := listed.toList.countP (fun b => !b)

theorem left_set (listed : Array Bool) (i : Nat) (h : listed[i]? = some false) : left listed = left (listed.setIfInBounds i true) + 1 := by
  obtain ⟨l⟩ := listed
  simp only [left, Array.toList_setIfInBounds, List.getElem?_toArray] at *
  induction l generalizing i with
  | nil => simp at h
  | cons x l ih =>
    cases i with
    | zero => simp at h; subst h; simp
    | succ i =>
      have := ih i (by simpa using h)
      cases x <;> simp_all

theorem wpAny_inv {P : Program} {ops : Array Oper} {Q : Exit → Act → World → Prop} (Inv : (Nat → Bool) → Act → World → Prop)
    (hback : ∀ (i : Nat) (o : Oper), ops[i]? = some o → ∀ e ∈ o.after, Region.binds .any e = true → e.on < i)
    (hstep : ∀ (L : Nat → Bool) (a : Act) (w : World) (i : Nat) (o : Oper), Inv L a w → ops[i]? = some o → L i = false → (∀ e ∈ o.after, Region.binds .any e = true → L e.on = true) →
      wpOp P ops Q i (fun a' w' => Inv (fun j => decide (j = i) || L j) a' w') a w)
    (hend : ∀ (L : Nat → Bool) (a : Act) (w : World), Inv L a w → (∀ i, i < ops.size → L i = true) → Q .normal a w) :
    ∀ (fuel : Nat) (listed : Array Bool) (a : Act) (w : World), listed.size = ops.size → left listed ≤ fuel → Inv (fun j => listed.getD j false) a w → wpAny P .any ops Q fuel listed a w := by
  have hdone : ∀ (listed : Array Bool) (a : Act) (w : World), listed.size = ops.size → Inv (fun j => listed.getD j false) a w → Region.ready .any ops listed = [] → Q .normal a w := by
    intro listed a w hs hI hr
    refine hend _ a w hI ?_
    intro i
    induction i using Nat.strongRecOn with
    | ind i ih =>
      intro hi
      cases hb : listed.getD i false with
      | true => rfl
      | false =>
        exfalso
        have hmem : i ∈ Region.ready .any ops listed := by
          refine mem_ready.2 ⟨?_, ops[i], by simp [hi], fun e he hbd => ?_⟩
          · have hi' : i < listed.size := by omega
            simpa [hi'] using hb
          · have hlt := hback i ops[i] (by simp [hi]) e he hbd
            exact ih e.on hlt (by omega)
        rw [hr] at hmem
        cases hmem
  intro fuel
  induction fuel with
  | zero =>
    intro listed a w hs hl hI
    have hr : Region.ready .any ops listed = [] := by
      rw [List.eq_nil_iff_forall_not_mem]
      intro i hi
      obtain ⟨h1, o, ho, _⟩ := mem_ready.1 hi
      have hlt : i < ops.size := (Array.getElem?_eq_some_iff.1 ho).1
      have hf : listed[i]? = some false := by
        have hi' : i < listed.size := by omega
        simpa [hi'] using h1
      have := left_set listed i hf
      omega
    exact ⟨hr, hdone listed a w hs hI hr⟩
  | succ fuel ih =>
    intro listed a w hs hl hI
    refine ⟨hdone listed a w hs hI, fun i hi => ?_⟩
    obtain ⟨h1, o, ho, h2⟩ := mem_ready.1 hi
    have hlt : i < ops.size := (Array.getElem?_eq_some_iff.1 ho).1
    have hi' : i < listed.size := by omega
    have hf : listed[i]? = some false := by simpa [hi'] using h1
    refine wpOp_mono (fun a' w' h3 => ?_) (hstep _ a w i o hI ho (by simp [hf]) h2)
    refine ih (listed.setIfInBounds i true) a' w' (by simpa using hs) ?_ ?_
    · have := left_set listed i hf
      omega
    · have e : (fun j => (listed.setIfInBounds i true).getD j false) = fun j => decide (j = i) || listed.getD j false := funext fun j => getD_setTrue listed i j hi'
      rw [e]; exact h3

/-- THE LAW: a region that draws its order, by an invariant. -/
theorem wp_region_inv {P : Program} {ops : Array Oper} {Q : Exit → Act → World → Prop} {id : Nat} {a : Act} {w : World} (hm : P.follows .mixedOrders = true) (Inv : (Nat → Bool) → Act → World → Prop)
    (hback : ∀ (i : Nat) (o : Oper), ops[i]? = some o → ∀ e ∈ o.after, Region.binds .any e = true → e.on < i)
    (h0 : Inv (fun _ => false) a w.drew)
    (hstep : ∀ (L : Nat → Bool) (a : Act) (w : World) (i : Nat) (o : Oper), Inv L a w → ops[i]? = some o → L i = false → (∀ e ∈ o.after, Region.binds .any e = true → L e.on = true) →
      wpOp P ops Q i (fun a' w' => Inv (fun j => decide (j = i) || L j) a' w') a w)
    (hend : ∀ (L : Nat → Bool) (a : Act) (w : World), Inv L a w → (∀ i, i < ops.size → L i = true) → Q .normal a w) :
    (Code.region id ops true).wp P Q a w := by
  refine wp_region_any hm (wpAny_inv Inv hback hstep hend _ _ _ _ (by simp) ?_ ?_)
  · simp only [left, Array.toList_replicate]
    exact Nat.le_trans List.countP_le_length (by simp)
  · have e : (fun j => (Array.replicate ops.size false).getD j false) = fun _ => false := by
      funext j
      by_cases hj : j < ops.size <;> simp [hj]
    rw [e]; exact h0

end Go.Proofs.YbulkbrpsDoor
