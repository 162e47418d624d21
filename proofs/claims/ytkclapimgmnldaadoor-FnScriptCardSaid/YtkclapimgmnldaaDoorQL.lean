/-
  What the row's list of package-level errors gives: each variable holds an error of its own, and no two hold the same one.
-/
import Derived.Test.YtkclapimgmnldaaDoorRows
import Derived.Stop.LaidErr
import Derived.ProofKit
import Derived.Test.YtkclapimgmnldaaDoorTie
import Derived.Test.YtkclapimgmnldaaDoorCards
import Derived.OpenShut
import Derived.WalkSmall
import Derived.Carry
import Derived.LaidMore
import Derived.Deep.DeepWitnessRowRef
namespace Go.Proofs.YtkclapimgmnldaaDoor
set_option linter.unusedVariables false
set_option linter.unusedSimpArgs false
set_option maxRecDepth 20000
open Go.RowKit Go.ChangeShapes

theorem nameErr : Tryd.prog.typeName? 3 124 = some "*errors.errorString" := by kernel_rfl
theorem starErr : "*" ++ "errors.errorString" = "*errors.errorString" := by decide
theorem rowErr (u : TypeId) (h : Tryd.prog.typeName? 3 u = some "*errors.errorString") : u = 124 :=
  typeName_ptr_named (nm := "errors.errorString") (by rw [starErr]; kernel_rfl) (by kernel_rfl) (by decide) u (by rw [starErr]; exact h)
theorem cellsErr : Tryd.prog.cellsOf 141 = 1 := by kernel_rfl
theorem cellsStr : Tryd.prog.cellsOf 9 = 1 := by kernel_rfl

/-- an error as the rows list it -/
abbrev errD (text : List UInt8) : DataW Unit := .iface "*errors.errorString" (.ptr (.agg [.lit (.string text)]))

/-- Of a list of names and their places: each holds an error, all are different. -/
theorem errs_of_vars {W : World} : ∀ (l : List (String × Nat × List UInt8)) (ps : List MemPlace), DataW.LaidVars Tryd.prog W (l.map fun x => (x.1, errD x.2.2)) ps →
    (∀ x ∈ l, Tryd.prog.globalNamed x.1 = some x.2.1 ∧ (Tryd.prog.globals[x.2.1]?).map (·.type) = some 83) → ps.Nodup →
    (∀ b off, MemPlace.cell b off ∈ ps → (∃ c t, W.heap[b]? = some (.cells c t (0, 0))) ∧ ∀ u v, W.cell? ⟨b, off, none⟩ = some (.iface u v) → Value.okWide Tryd.prog W .any 0 u v) →
    ∃ ads : List Addr, ads.length = l.length ∧ ads.Nodup ∧ (∀ a ∈ ads, a.spot = none ∧ MemPlace.cell a.block a.off ∈ ps ∧ ∃ c t, W.heap[a.block]? = some (.cells c t (0, 0))) ∧
      ∀ (i : Nat) (x : String × Nat × List UInt8) (a : Addr), l[i]? = some x → ads[i]? = some a → W.var? Tryd.prog x.1 = some #[.iface 124 (.pointer (some a))] ∧ W.cell? ⟨x.2.1, 0, none⟩ = some (.iface 124 (.pointer (some a)))
  | [], ps, _, _, _, _ => ⟨[], rfl, List.nodup_nil, (fun _ h => by cases h), fun i x a h => by simp at h⟩
  | x :: l, ps, h, hg, hnd, hrows => by
    obtain ⟨g, t, cs, fuel, p, q, hg0, ht0, hv0, hd0, hq, e0⟩ := h
    have hx := hg x (by simp)
    obtain rfl := Option.some.inj (hx.1.symm.trans hg0)
    obtain rfl := Option.some.inj (hx.2.symm.trans ht0)
    subst e0
    obtain ⟨l0⟩ := cs
    have ok0 : ∀ u v, l0 = [.iface u v] → Value.okWide Tryd.prog W .any 0 u v := fun u v e => by
      subst e
      exact (hrows x.2.1 0 (by simp [MemPlace.row])).2 u v (by simpa using World.var?_cell hg0 hv0 0)
    obtain ⟨a0, s0, rfl, hc0, hs0, hz0, rfl⟩ := errorString_of_trod Tryd.underlying83 rowErr Tryd.underlying124 Tryd.underlying141 rfl rfl Tryd.underlying9 cellsErr cellsStr hd0 ok0
    obtain ⟨ads, h1, h2, h3, h4⟩ := errs_of_vars l q hq (fun y hy => hg y (by simp [hy])) (List.Nodup.sublist (List.sublist_append_right _ _) hnd) (fun b off hm => hrows b off (List.mem_append_right _ hm))
    have hsp : a0.spot = none := by
      unfold World.cell? at hc0
      cases hsp : a0.spot with
      | none => rfl
      | some k => simp [hsp] at hc0; split at hc0 <;> cases hc0
    have hmem : MemPlace.cell a0.block a0.off ∈ MemPlace.row ⟨x.2.1, 0, none⟩ 1 ++ MemPlace.row a0 1 ++ q := by simp [MemPlace.row]
    refine ⟨a0 :: ads, by simp [h1], List.nodup_cons.2 ⟨fun hm => ?_, h2⟩, ?_, ?_⟩
    · have h5 := (h3 a0 hm).2.1
      have hnd2 := hnd
      rw [List.append_assoc] at hnd2
      have := (List.nodup_append.1 (List.nodup_append.1 hnd2).2.1).2.2 (.cell a0.block a0.off) (by simp [MemPlace.row]) (.cell a0.block a0.off) h5
      exact this rfl
    · intro a ha
      rcases List.mem_cons.1 ha with rfl | ha
      · exact ⟨hsp, by simp [MemPlace.row], (hrows a.block a.off (by simp [MemPlace.row])).1⟩
      · exact ⟨(h3 a ha).1, List.mem_append_right _ (h3 a ha).2.1, (h3 a ha).2.2⟩
    · intro i y a hy ha
      cases i with
      | zero =>
        simp at hy ha
        subst hy; subst ha
        exact ⟨hv0, by simpa using World.var?_cell hg0 hv0 0⟩
      | succ i => exact h4 i y a (by simpa using hy) (by simpa using ha)

theorem errs_of_laid {W : World} (l : List (String × Nat × List UInt8)) (h : laidMet Tryd.prog (l.map fun x => (x.1, errD x.2.2)) W) (hg : ∀ x ∈ l, Tryd.prog.globalNamed x.1 = some x.2.1 ∧ (Tryd.prog.globals[x.2.1]?).map (·.type) = some 83) :
    ∃ ads : List Addr, ads.length = l.length ∧ ads.Nodup ∧ (∀ a ∈ ads, a.spot = none ∧ ∃ c t, W.heap[a.block]? = some (.cells c t (0, 0))) ∧
      ∀ (i : Nat) (x : String × Nat × List UInt8) (a : Addr), l[i]? = some x → ads[i]? = some a → W.var? Tryd.prog x.1 = some #[.iface 124 (.pointer (some a))] ∧ W.cell? ⟨x.2.1, 0, none⟩ = some (.iface 124 (.pointer (some a))) := by
  obtain ⟨ps, hv, hnd, hrows⟩ := h
  obtain ⟨ads, h1, h2, h3, h4⟩ := errs_of_vars l ps hv hg hnd hrows
  exact ⟨ads, h1, h2, fun a ha => ⟨(h3 a ha).1, (h3 a ha).2.2⟩, h4⟩
end Go.Proofs.YtkclapimgmnldaaDoor

/-
  From a walk to a row, once for all laws: where a law returns true and turns nothing that was there, its row's post holds.
-/
namespace Go.Proofs.YtkclapimgmnldaaDoor
set_option linter.unusedVariables false
set_option linter.unusedSimpArgs false
set_option maxRecDepth 20000
open Go.ChangeShapes Go.WideShapes Go.ChangeAt Go.RowKit

theorem own : ownKnob Tryd.prog.godebug = none := by kernel_rfl
theorem laidOut : laidOutB Tryd.prog = true := by kernel_rfl

theorem trodAll_below {H : Type} {enc : TypeId × Value → H} {P : Program} (hl : laidOutB P = true) {W W' : World} (hb : Below W.heap.size W W') : ∀ (ts : List TypeId) (vs : List Value) (ds : List (DataW H)) (ps : List MemPlace), (ts.all fun t => P.readableRec t && decide (t < P.types.size)) = true →
    DataW.TrodAll enc P W 0 (fun _ => true) true ts vs ds ps → (∀ x ∈ ps, x.block < W.heap.size) → DataW.TrodAll enc P W' 0 (fun b => decide (b < W.heap.size)) true ts vs ds ps := by
  intro ts
  induction ts with
  | nil =>
    intro vs ds ps _ h _
    cases vs <;> cases ds <;> first | exact h | simp [DataW.TrodAll] at h
  | cons t ts ih =>
    intro vs ds ps hr h hlt
    cases vs with
    | nil => simp [DataW.TrodAll] at h
    | cons v vs =>
      cases ds with
      | nil => simp [DataW.TrodAll] at h
      | cons d ds =>
        obtain ⟨p, q, h1, h2, rfl⟩ := h
        simp only [List.all_cons, Bool.and_eq_true, decide_eq_true_eq] at hr
        exact ⟨p, q, Below.trod hl hr.1.1 hr.1.2 h1 hb (fun x hx => hlt x (by simp [hx])), ih vs ds q (by simpa using hr.2) h2 (fun x hx => hlt x (by simp [hx])), rfl⟩

theorem law_post {H : Type} {enc : TypeId × Value → H} {s : ChangeSpec} {f : Func} {W W' : World} {args : Array Value} {ds gs : List (DataW H)} {before : List MemPlace}
    (hW : DataW.Whole enc Tryd.prog f.params.toList s.vars false W args.toList ds gs before) (hr : (f.params.toList.all fun t => Tryd.prog.readableRec t && decide (t < Tryd.prog.types.size)) = true) (hres : f.resultTypes = #[4])
    (hfn : s.fn H (ds ++ gs) = { results := [.lit (.bool true)], args := ds, vars := gs }) (hv : ∃ pv, DataW.TrodVars enc Tryd.prog W' (fun b => decide (b < W.heap.size)) s.vars gs pv) (hb : Below W.heap.size W W') :
    s.post enc Tryd.prog f false true false false W args (.bool true) W' := by
  have hW' := hW
  obtain ⟨p, q, hA, _, rfl, _, _⟩ := hW
  obtain ⟨pv, hv⟩ := hv
  have hlt : ∀ x ∈ p, x.block < W.heap.size := fun x hx => hW'.lt x (by simp [hx])
  refine ⟨ds, gs, _, [], p, pv, hW', ?_, ?_, ?_, hb.frame _, fun h => by cases h⟩
  · rw [hfn, hres]
    exact trodAll_mk1 (shut_bool Tryd.underlying4 _)
  · rw [hfn]; exact trodAll_below laidOut hb _ _ _ _ hr hA hlt
  · rw [hfn]; exact hv
end Go.Proofs.YtkclapimgmnldaaDoor
