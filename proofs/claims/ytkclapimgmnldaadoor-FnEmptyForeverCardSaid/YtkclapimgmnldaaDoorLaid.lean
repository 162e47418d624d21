/-
  What the row's list of package-level errors gives: each variable holds an error of its own, and no two hold the same one.
-/
import Derived.Test.YtkclapimgmnldaaDoorRows
import Derived.Stop.LaidErr
import Derived.ProofKit
namespace Go.Proofs.YtkclapimgmnldaaDoor
set_option linter.unusedVariables false
set_option linter.unusedSimpArgs false
set_option maxRecDepth 20000
open Go.RowKit Go.ChangeShapes

theorem nameErr : Tryd.prog.typeName? 3 124 = some "*errors.errorString" := by kernel_rfl
theorem starErr : "*" ++ "errors.errorString" = "*errors.errorString" := by decide
theorem rowErr (u : TypeId) (h : Tryd.prog.typeName? 3 u = some "*errors.errorString") : u = 124 :=
  typeName_ptr_named (nm := "errors.errorString") (by rw [starErr]; kernel_rfl) (by kernel_rfl) (by decide) u (by rw [starErr]; exact h)
theorem cellsErr : Tryd.prog.cellsOf 141 = 1 := by kernel_rfl
theorem cellsStr : Tryd.prog.cellsOf 9 = 1 := by kernel_rfl

/-- an error as the rows list it -/
abbrev errD (text : List UInt8) : DataW Unit := .iface "*errors.errorString" (.ptr (.agg [.lit (.string text)]))

/-- Of a list of names and their places: each holds an error, all are different. -/
theorem errs_of_vars {W : World} : ∀ (l : List (String × Nat × List UInt8)) (ps : List MemPlace), DataW.LaidVars Tryd.prog W (l.map fun x => (x.1, errD x.2.2)) ps →
    (∀ x ∈ l, Tryd.prog.globalNamed x.1 = some x.2.1 ∧ (Tryd.prog.globals[x.2.1]?).map (·.type) = some 83) → ps.Nodup →
    (∀ b off, MemPlace.cell b off ∈ ps → (∃ c t, W.heap[b]? = some (.cells c t (0, 0))) ∧ ∀ u v, W.cell? ⟨b, off, none⟩ = some (.iface u v) → Value.okWide Tryd.prog W .any 0 u v) →
    ∃ ads : List Addr, ads.length = l.length ∧ ads.Nodup ∧ (∀ a ∈ ads, a.spot = none ∧ MemPlace.cell a.block a.off ∈ ps ∧ ∃ c t, W.heap[a.block]? = some (.cells c t (0, 0))) ∧
      ∀ (i : Nat) (x : String × Nat × List UInt8) (a : Addr), l[i]? = some x → ads[i]? = some a → W.var? Tryd.prog x.1 = some #[.iface 124 (.pointer (some a))] ∧ W.cell? ⟨x.2.1, 0, none⟩ = some (.iface 124 (.pointer (some a)))
  | [], ps, _, _, _, _ => ⟨[], rfl, List.nodup_nil, (fun _ h => by cases h), fun i x a h => by simp at h⟩
  | x :: l, ps, h, hg, hnd, hrows => by
    obtain ⟨g, t, cs, fuel, p, q, hg0, ht0, hv0, hd0, hq, e0⟩ := h
    have hx := hg x (by simp)
    obtain rfl := Option.some.inj (hx.1.symm.trans hg0)
    obtain rfl := Option.some.inj (hx.2.symm.trans ht0)
    subst e0
    obtain ⟨l0⟩ := cs
    have ok0 : ∀ u v, l0 = [.iface u v] → Value.okWide Tryd.prog W .any 0 u v := fun u v e => by
      subst e
      exact (hrows x.2.1 0 (by simp [MemPlace.row])).2 u v (by simpa using World.var?_cell hg0 hv0 0)
    obtain ⟨a0, s0, rfl, hc0, hs0, hz0, rfl⟩ := errorString_of_trod Tryd.underlying83 rowErr Tryd.underlying124 Tryd.underlying141 rfl rfl Tryd.underlying9 cellsErr cellsStr hd0 ok0
    obtain ⟨ads, h1, h2, h3, h4⟩ := errs_of_vars l q hq (fun y hy => hg y (by simp [hy])) (List.Nodup.sublist (List.sublist_append_right _ _) hnd) (fun b off hm => hrows b off (List.mem_append_right _ hm))
    have hsp : a0.spot = none := by
      unfold World.cell? at hc0
      cases hsp : a0.spot with
      | none => rfl
      | some k => simp [hsp] at hc0; split at hc0 <;> cases hc0
    have hmem : MemPlace.cell a0.block a0.off ∈ MemPlace.row ⟨x.2.1, 0, none⟩ 1 ++ MemPlace.row a0 1 ++ q := by simp [MemPlace.row]
    refine ⟨a0 :: ads, by simp [h1], List.nodup_cons.2 ⟨fun hm => ?_, h2⟩, ?_, ?_⟩
    · have h5 := (h3 a0 hm).2.1
      have hnd2 := hnd
      rw [List.append_assoc] at hnd2
      have := (List.nodup_append.1 (List.nodup_append.1 hnd2).2.1).2.2 (.cell a0.block a0.off) (by simp [MemPlace.row]) (.cell a0.block a0.off) h5
      exact this rfl
    · intro a ha
      rcases List.mem_cons.1 ha with rfl | ha
      · exact ⟨hsp, by simp [MemPlace.row], (hrows a.block a.off (by simp [MemPlace.row])).1⟩
      · exact ⟨(h3 a ha).1, List.mem_append_right _ (h3 a ha).2.1, (h3 a ha).2.2⟩
    · intro i y a hy ha
      cases i with
      | zero =>
        simp at hy ha
        subst hy; subst ha
        exact ⟨hv0, by simpa using World.var?_cell hg0 hv0 0⟩
      | succ i => exact h4 i y a (by simpa using hy) (by simpa using ha)

theorem errs_of_laid {W : World} (l : List (String × Nat × List UInt8)) (h : laidMet Tryd.prog (l.map fun x => (x.1, errD x.2.2)) W) (hg : ∀ x ∈ l, Tryd.prog.globalNamed x.1 = some x.2.1 ∧ (Tryd.prog.globals[x.2.1]?).map (·.type) = some 83) :
    ∃ ads : List Addr, ads.length = l.length ∧ ads.Nodup ∧ (∀ a ∈ ads, a.spot = none ∧ ∃ c t, W.heap[a.block]? = some (.cells c t (0, 0))) ∧
      ∀ (i : Nat) (x : String × Nat × List UInt8) (a : Addr), l[i]? = some x → ads[i]? = some a → W.var? Tryd.prog x.1 = some #[.iface 124 (.pointer (some a))] ∧ W.cell? ⟨x.2.1, 0, none⟩ = some (.iface 124 (.pointer (some a))) := by
  obtain ⟨ps, hv, hnd, hrows⟩ := h
  obtain ⟨ads, h1, h2, h3, h4⟩ := errs_of_vars l ps hv hg hnd hrows
  exact ⟨ads, h1, h2, fun a ha => ⟨(h3 a ha).1, (h3 a ha).2.2⟩, h4⟩
end Go.Proofs.YtkclapimgmnldaaDoor
