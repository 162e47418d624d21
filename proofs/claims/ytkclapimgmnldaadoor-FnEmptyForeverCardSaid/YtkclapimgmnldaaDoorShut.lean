/-
  From a walk to a row, once for all laws: where a law returns true and turns nothing that was there, its row's post holds.
-/
import Derived.Test.YtkclapimgmnldaaDoorLaid
import Derived.Test.YtkclapimgmnldaaDoorTie
import Derived.Test.YtkclapimgmnldaaDoorCards
import Derived.OpenShut
import Derived.WalkSmall
import Derived.Carry
import Derived.LaidMore
import Derived.Deep.DeepWitnessRowRef
namespace Go.Proofs.YtkclapimgmnldaaDoor
set_option linter.unusedVariables false
set_option linter.unusedSimpArgs false
set_option maxRecDepth 20000
open Go.ChangeShapes Go.WideShapes Go.ChangeAt Go.RowKit

theorem own : ownKnob Tryd.prog.godebug = none := by kernel_rfl
theorem laidOut : laidOutB Tryd.prog = true := by kernel_rfl

theorem trodAll_below {H : Type} {enc : TypeId × Value → H} {P : Program} (hl : laidOutB P = true) {W W' : World} (hb : Below W.heap.size W W') : ∀ (ts : List TypeId) (vs : List Value) (ds : List (DataW H)) (ps : List MemPlace), (ts.all fun t => P.readableRec t && decide (t < P.types.size)) = true →
    DataW.TrodAll enc P W 0 (fun _ => true) true ts vs ds ps → (∀ x ∈ ps, x.block < W.heap.size) → DataW.TrodAll enc P W' 0 (fun b => decide (b < W.heap.size)) true ts vs ds ps := by
  intro ts
  induction ts with
  | nil =>
    intro vs ds ps _ h _
    cases vs <;> cases ds <;> first | exact h | simp [DataW.TrodAll] at h
  | cons t ts ih =>
    intro vs ds ps hr h hlt
    cases vs with
    | nil => simp [DataW.TrodAll] at h
    | cons v vs =>
      cases ds with
      | nil => simp [DataW.TrodAll] at h
      | cons d ds =>
        obtain ⟨p, q, h1, h2, rfl⟩ := h
        simp only [List.all_cons, Bool.and_eq_true, decide_eq_true_eq] at hr
        exact ⟨p, q, Below.trod hl hr.1.1 hr.1.2 h1 hb (fun x hx => hlt x (by simp [hx])), ih vs ds q (by simpa using hr.2) h2 (fun x hx => hlt x (by simp [hx])), rfl⟩

theorem law_post {H : Type} {enc : TypeId × Value → H} {s : ChangeSpec} {f : Func} {W W' : World} {args : Array Value} {ds gs : List (DataW H)} {before : List MemPlace}
    (hW : DataW.Whole enc Tryd.prog f.params.toList s.vars false W args.toList ds gs before) (hr : (f.params.toList.all fun t => Tryd.prog.readableRec t && decide (t < Tryd.prog.types.size)) = true) (hres : f.resultTypes = #[4])
    (hfn : s.fn H (ds ++ gs) = { results := [.lit (.bool true)], args := ds, vars := gs }) (hv : ∃ pv, DataW.TrodVars enc Tryd.prog W' (fun b => decide (b < W.heap.size)) s.vars gs pv) (hb : Below W.heap.size W W') :
    s.post enc Tryd.prog f false true false false W args (.bool true) W' := by
  have hW' := hW
  obtain ⟨p, q, hA, _, rfl, _, _⟩ := hW
  obtain ⟨pv, hv⟩ := hv
  have hlt : ∀ x ∈ p, x.block < W.heap.size := fun x hx => hW'.lt x (by simp [hx])
  refine ⟨ds, gs, _, [], p, pv, hW', ?_, ?_, ?_, hb.frame _, fun h => by cases h⟩
  · rw [hfn, hres]
    exact trodAll_mk1 (shut_bool Tryd.underlying4 _)
  · rw [hfn]; exact trodAll_below laidOut hb _ _ _ _ hr hA hlt
  · rw [hfn]; exact hv
end Go.Proofs.YtkclapimgmnldaaDoor
