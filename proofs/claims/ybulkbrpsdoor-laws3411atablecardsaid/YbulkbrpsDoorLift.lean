/-
  WHAT EVERY LAW OF THIS SEAT SHARES ON THE WAY FROM THE WALK TO THE ROW: a law that only adds new blocks ('Below') leaves its arguments and the named variables as they read before; and a listed table of strings, opened to its cells.
-/
import Derived.Test.YbulkbrpsDoorRows
import Derived.WalkKit
import Derived.ProofKit
import Derived.OpenShut
import Derived.OpenVars
import Derived.ShutString
import Derived.LaidMore
import Derived.Stop.Joined
import Derived.SevenTiedAt
namespace Go.Proofs.YbulkbrpsDoor
open Go.ChangeShapes Go.WideShapes Go.ChangeAt Go.RowKit

theorem own : ownKnob Ybad.prog.godebug = none := by kernel_rfl
theorem laidOut : laidOutB Ybad.prog = true := by kernel_rfl

/-- ARGS of 'post' for a whole list of arguments. -/
theorem below_trodAll {H : Type} {enc : TypeId × Value → H} {P : Program} (hl : laidOutB P = true) {W W' : World} (hb : Below W.heap.size W W') :
    ∀ {ts : List TypeId} {vs : List Value} {ds : List (DataW H)} {ps : List MemPlace}, (ts.all fun t => P.readableRec t && decide (t < P.types.size)) = true → (∀ x ∈ ps, x.block < W.heap.size) →
      DataW.TrodAll enc P W 0 (fun _ => true) true ts vs ds ps → DataW.TrodAll enc P W' 0 (fun b => decide (b < W.heap.size)) true ts vs ds ps
  | [], [], [], _, _, _, h => h
  | t :: ts, v :: vs, d :: ds, ps, hr, hlt, h => by
    obtain ⟨p, q, h1, h2, rfl⟩ := h
    simp only [List.all_cons, Bool.and_eq_true, decide_eq_true_eq] at hr
    exact ⟨p, q, Below.trod hl hr.1.1 hr.1.2 h1 hb (fun x hx => hlt x (by simp [hx])), below_trodAll hl hb hr.2 (fun x hx => hlt x (by simp [hx])) h2, rfl⟩
  | [], [], _ :: _, _, _, _, h => h.elim
  | [], _ :: _, _, _, _, _, h => h.elim
  | _ :: _, [], _, _, _, _, h => h.elim
  | _ :: _, _ :: _, [], _, _, _, h => h.elim

/-- THE WHOLE OF 'post' for a law that answers true and lays at most new blocks. -/
theorem law_post {H : Type} {enc : TypeId × Value → H} {f : Func} {s : ChangeSpec} {W W' : World} {args : Array Value} {ds gs : List (DataW H)} {before : List MemPlace}
    (hW : DataW.Whole enc Ybad.prog f.params.toList s.vars false W args.toList ds gs before)
    (hr : f.resultTypes = #[4]) (hp : (f.params.toList.all fun t => Ybad.prog.readableRec t && decide (t < Ybad.prog.types.size)) = true) (hv : varsRowed Ybad.prog s.vars = true)
    (hfn : s.fn H (ds ++ gs) = { results := [.lit (.bool true)], args := ds, vars := gs }) (hb : Below W.heap.size W W') :
    s.post enc Ybad.prog f false true false false W args (.bool true) W' := by
  have hlt := hW.lt
  have hW' := hW
  obtain ⟨p, q, hA, hV, rfl, _, _⟩ := hW
  refine ⟨ds, gs, p ++ q, [], p, q, hW', ?_, ?_, ?_, hb.frame _, fun h => by cases h⟩
  · rw [hfn, hr]; exact trodAll_mk1 (shut_bool Ybad.underlying4 true)
  · rw [hfn]; exact below_trodAll laidOut hb hp (fun x hx => hlt x (by simp [hx])) hA
  · rw [hfn]; exact Below.trodVars laidOut hb hv hV

theorem mapM_at {α β : Type} {f : α → Option β} : ∀ {l : List α} {r : List β}, l.mapM f = some r → ∀ (i : Nat) (a : α), l[i]? = some a → ∃ b, r[i]? = some b ∧ f a = some b
  | [], _, _, i, a, ha => by simp at ha
  | x :: l, r, h, i, a, ha => by
    simp only [List.mapM_cons, Option.bind_eq_bind, Option.bind_eq_some_iff, Option.pure_def, Option.some.injEq] at h
    obtain ⟨b, hb, r', hr', rfl⟩ := h
    cases i with
    | zero =>
      simp only [List.getElem?_cons_zero, Option.some.injEq] at ha
      subst ha
      exact ⟨b, rfl, hb⟩
    | succ i => exact mapM_at hr' i a (by simpa using ha)

/-- AN ARRAY OF STRINGS THAT READS AS THE LIST OF BYTES 'ls' HOLDS JUST THOSE STRINGS, CELL FOR CELL. -/
theorem cells_of_strs {H : Type} {enc : TypeId × Value → H} {P : Program} {w : World} {base : Nat} {sp : Nat → Bool} {held : Bool} {fuel : Nat} {t e : TypeId} {n : Nat} {cs : List Value} {ls : List (List UInt8)} {p : List MemPlace}
    (ht : P.underlying t = some (.array n e)) (he : P.underlying e = some .string) (hce : P.cellsOf e = 1) (hct : P.cellsOf t = n)
    (h : DataW.trod enc P w base sp held fuel t cs = some (.agg (ls.map fun l => .lit (.string l)), p)) : cs = ls.map fun l => Value.string ⟨l.toArray⟩ := by
  obtain ⟨xs, m, rfl, hx, hlen, hn, hel⟩ := DataW.trod_array ht h
  simp only [Prod.mk.injEq, DataW.agg.injEq] at hx
  obtain ⟨hx, _⟩ := hx
  have hll : ls.length = n := by
    have := congrArg List.length hx
    simp at this
    omega
  apply List.ext_getElem?
  intro i
  by_cases hi : i < n
  · have h0 := hel i hi
    rw [hce, Nat.mul_one] at h0
    have hix : i < xs.length := by omega
    rw [List.getElem?_eq_getElem hix] at h0
    obtain ⟨s, hs, hy, _⟩ := DataW.trod_string he h0
    have h1 : cs[i]? = some (.string s) := by
      have := congrArg (·[0]?) hs
      simpa [List.getElem?_take, List.getElem?_drop] using this
    have h2 : (ls.map fun l => (DataW.lit (.string l) : DataW H))[i]? = (xs.map (·.1))[i]? := by rw [hx]
    have hil : i < ls.length := by omega
    simp only [List.getElem?_map, List.getElem?_eq_getElem hil, List.getElem?_eq_getElem hix, Option.map_some, Option.some.injEq, hy, DataW.lit.injEq, Lit.string.injEq] at h2
    rw [h1, List.getElem?_map, List.getElem?_eq_getElem hil, Option.map_some, h2]
  · rw [List.getElem?_eq_none (by omega), List.getElem?_eq_none (by simp; omega)]

/-- The variable's block, out of 'var?'. -/
theorem block_of_var {P : Program} {W : World} {n : String} {g : Nat} {cs : Array Value} (hg : P.globalNamed n = some g) (h : W.var? P n = some cs) : ∃ t fr, W.heap[g]? = some (.cells cs t fr) := by
  unfold World.var? at h
  rw [hg] at h
  simp only [Option.bind_some] at h
  split at h
  · rename_i cs' t fr hh
    cases h
    exact ⟨t, fr, hh⟩
  · cases h
end Go.Proofs.YbulkbrpsDoor
