/-
  WHAT EVERY LAW OF THIS SEAT SHARES ON THE WAY FROM THE WALK TO THE ROW: a law that only adds new blocks ('Below') leaves its arguments as they read before.
-/
import Derived.Test.YbulkbrpsRows
import Derived.WalkKit
import Derived.ProofKit
import Derived.OpenShut
import Derived.OpenVars
import Derived.ShutString
namespace Go.Proofs.Ybulkbrps
open Go.ChangeShapes Go.WideShapes Go.ChangeAt Go.RowKit

theorem own : ownKnob Yba.prog.godebug = none := by kernel_rfl
theorem laidOut : laidOutB Yba.prog = true := by kernel_rfl

/-- ARGS of 'post' for a whole list of arguments. -/
theorem below_trodAll {H : Type} {enc : TypeId × Value → H} {P : Program} (hl : laidOutB P = true) {W W' : World} (hb : Below W.heap.size W W') :
    ∀ {ts : List TypeId} {vs : List Value} {ds : List (DataW H)} {ps : List MemPlace}, (ts.all fun t => P.readableRec t && decide (t < P.types.size)) = true → (∀ x ∈ ps, x.block < W.heap.size) →
      DataW.TrodAll enc P W 0 (fun _ => true) true ts vs ds ps → DataW.TrodAll enc P W' 0 (fun b => decide (b < W.heap.size)) true ts vs ds ps
  | [], [], [], _, _, _, h => h
  | t :: ts, v :: vs, d :: ds, ps, hr, hlt, h => by
    obtain ⟨p, q, h1, h2, rfl⟩ := h
    simp only [List.all_cons, Bool.and_eq_true, decide_eq_true_eq] at hr
    exact ⟨p, q, Below.trod hl hr.1.1 hr.1.2 h1 hb (fun x hx => hlt x (by simp [hx])), below_trodAll hl hb hr.2 (fun x hx => hlt x (by simp [hx])) h2, rfl⟩
  | [], [], _ :: _, _, _, _, h => h.elim
  | [], _ :: _, _, _, _, _, h => h.elim
  | _ :: _, [], _, _, _, _, h => h.elim
  | _ :: _, _ :: _, [], _, _, _, h => h.elim

/-- THE WHOLE OF 'post' for a law that answers true and lays at most new blocks. -/
theorem law_post {H : Type} {enc : TypeId × Value → H} {f : Func} {s : ChangeSpec} {W W' : World} {args : Array Value} {ds gs : List (DataW H)} {before : List MemPlace}
    (hW : DataW.Whole enc Yba.prog f.params.toList s.vars false W args.toList ds gs before)
    (hr : f.resultTypes = #[4]) (hp : (f.params.toList.all fun t => Yba.prog.readableRec t && decide (t < Yba.prog.types.size)) = true) (hv : varsRowed Yba.prog s.vars = true)
    (hfn : s.fn H (ds ++ gs) = { results := [.lit (.bool true)], args := ds, vars := gs }) (hb : Below W.heap.size W W') :
    s.post enc Yba.prog f false true false false W args (.bool true) W' := by
  have hlt := hW.lt
  have hW' := hW
  obtain ⟨p, q, hA, hV, rfl, _, _⟩ := hW
  refine ⟨ds, gs, p ++ q, [], p, q, hW', ?_, ?_, ?_, hb.frame _, fun h => by cases h⟩
  · rw [hfn, hr]; exact trodAll_mk1 (shut_bool Yba.underlying4 true)
  · rw [hfn]; exact below_trodAll laidOut hb hp (fun x hx => hlt x (by simp [hx])) hA
  · rw [hfn]; exact Below.trodVars laidOut hb hv hV

end Go.Proofs.Ybulkbrps
