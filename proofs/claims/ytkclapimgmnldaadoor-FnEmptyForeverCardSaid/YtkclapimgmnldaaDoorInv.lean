/-
  A region that draws its order, by an invariant over what has come up so far: each operation is met once, whatever the order.
-/
import Derived.Orders
import Derived.Laws.World
namespace Go.Proofs.YtkclapimgmnldaaDoor
set_option linter.unusedVariables false
set_option linter.unusedSimpArgs false

section
variable {P : Program} {ops : Array Oper} {Q : Exit → Act → World → Prop}
theorem wpOp_of {i : Nat} {o : Oper} {K : Act → World → Prop} {a : Act} {w : World} (ho : ops[i]? = some o) (hg : o.guard = none) (h : o.wp P a w K Q) : wpOp P ops Q i K a w := by
  unfold wpOp
  rw [ho]
  simp only [Region.wanted, hg]
  exact .inl h
theorem wpAny_inv (J : (Nat → Bool) → Act → World → Prop)
    (hstep : ∀ f a w i o, J f a w → ops[i]? = some o → f i = false → (∀ e ∈ o.after, Region.binds .any e = true → f e.on = true) → wpOp P ops Q i (fun a' w' => J (fun k => f k || k == i) a' w') a w)
    (hend : ∀ f a w, J f a w → (∀ i, i < ops.size → (∀ o, ops[i]? = some o → (∀ e ∈ o.after, Region.binds .any e = true → f e.on = true) → f i = true)) → Q .normal a w) :
    ∀ (fuel : Nat) (listed : Array Bool) (a : Act) (w : World), listed.size = ops.size → listed.toList.countP (fun b => !b) ≤ fuel → J (fun k => listed.getD k false) a w → wpAny P .any ops Q fuel listed a w := by
  have hfin : ∀ (listed : Array Bool) (a : Act) (w : World), listed.size = ops.size → J (fun k => listed.getD k false) a w → Region.ready .any ops listed = [] → Q .normal a w := by
    intro listed a w hs hJ hr
    refine hend _ a w hJ fun i hi o ho he => ?_
    cases hl : listed.getD i false with
    | true => rfl
    | false =>
      have : i ∈ Region.ready .any ops listed := by
        rw [mem_ready]
        refine ⟨?_, o, ho, he⟩
        have hi' : i < listed.size := by omega
        simp only [Array.getD, hi', dif_pos] at hl ⊢
        exact hl
      rw [hr] at this
      cases this
  intro fuel
  induction fuel with
  | zero =>
    intro listed a w hs hc hJ
    have hr : Region.ready .any ops listed = [] := by
      refine List.eq_nil_iff_forall_not_mem.2 fun i hi => ?_
      rw [mem_ready] at hi
      obtain ⟨h1, o, ho, _⟩ := hi
      have hlt : i < listed.size := by
        have := (Array.getElem?_eq_some_iff.1 ho).1
        omega
      simp only [Array.getD, hlt, dif_pos] at h1
      have h0 : listed.toList.countP (fun b => !b) = 0 := by omega
      rw [List.countP_eq_zero] at h0
      have := h0 (listed[i]) (by simp)
      simp at this
      cases (this.symm.trans h1)
    exact ⟨hr, hfin listed a w hs hJ hr⟩
  | succ fuel ih =>
    intro listed a w hs hc hJ
    refine ⟨hfin listed a w hs hJ, fun i hi => ?_⟩
    rw [mem_ready] at hi
    obtain ⟨h1, o, ho, he⟩ := hi
    have hlt : i < listed.size := by
      have := (Array.getElem?_eq_some_iff.1 ho).1
      omega
    have h1' : listed[i] = false := by
      simp only [Array.getD, hlt, dif_pos] at h1
      exact h1
    have hf : listed.getD i false = false := by
      simp only [Array.getD, hlt, dif_pos]
      exact h1'
    refine wpOp_mono (fun a' w' h => ih _ a' w' (by simpa using hs) ?_ ?_) (hstep _ a w i o hJ ho hf he)
    · have e : (listed.setIfInBounds i true).toList = listed.toList.set i true := by simp
      rw [e, List.countP_set (by simpa using hlt)]
      have : listed.toList[i]'(by simpa using hlt) = false := by simpa using h1'
      rw [this]
      have hpos : 0 < listed.toList.countP (fun b => !b) := by
        rw [List.countP_pos_iff]
        exact ⟨false, by rw [← this]; exact List.getElem_mem _, rfl⟩
      show listed.toList.countP (fun b => !b) - 1 + 0 ≤ fuel
      omega
    · have e : (fun k => (listed.setIfInBounds i true).getD k false) = fun k => listed.getD k false || k == i := by
        funext k
        by_cases hk : k = i
        · subst hk
          simp [Array.getD, hlt]
        · rw [getD_set_ne false (Ne.symm hk)]
          simp [hk]
      rw [e]
      exact h
theorem wp_region_inv {id : Nat} {a : Act} {w : World} (hm : P.follows .mixedOrders = true) (J : (Nat → Bool) → Act → World → Prop) (h0 : J (fun _ => false) a w.drew)
    (hstep : ∀ f a w i o, J f a w → ops[i]? = some o → f i = false → (∀ e ∈ o.after, Region.binds .any e = true → f e.on = true) → wpOp P ops Q i (fun a' w' => J (fun k => f k || k == i) a' w') a w)
    (hend : ∀ f a w, J f a w → (∀ i, i < ops.size → (∀ o, ops[i]? = some o → (∀ e ∈ o.after, Region.binds .any e = true → f e.on = true) → f i = true)) → Q .normal a w) : (Code.region id ops true).wp P Q a w := by
  refine wp_region_any hm ?_
  refine wpAny_inv J hstep hend ops.size _ a _ (by simp) ?_ ?_
  · refine Nat.le_trans (List.countP_le_length) (by simp)
  · have e : (fun k => (Array.replicate ops.size false).getD k false) = fun _ => false := by
      funext k
      simp only [Array.getD]
      split <;> simp
    rw [e]
    exact h0
end
end Go.Proofs.YtkclapimgmnldaaDoor
