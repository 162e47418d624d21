/-
  A region that draws its order: operations that only read, then one that may do anything and waits for all of them, then again operations that only read. The kit's 'wp_region_still_tail' asks that what stands behind the one operation be a chain; this law asks only that each of these waits for the one operation or for one behind it.
-/
import Derived.StillTailTactics
namespace Go.Proofs.YtkclapimgmnldaaDoor
set_option linter.unusedVariables false
set_option linter.unusedSimpArgs false
set_option maxRecDepth 20000
open Go

section
variable {P : Program} {ops : Array Oper} {md : Region.Mode} {w : World}

/-- each operation behind n waits for one from n on -/
def linkB (md : Region.Mode) (ops : Array Oper) (n : Nat) : Bool :=
  (List.range ops.size).all fun t => decide (t ≤ n) || (List.range t).any fun j => decide (n ≤ j) && Region.waitsFor md ops t j

theorem mid_waits {n : Nat} {listed : Array Bool} (hs : Region.sinkB md ops n = true) (hc : linkB md ops n = true) (inv : HeadInv md ops n listed) :
    ∀ (d i : Nat), n - i = d → i < n → listed.getD i true = false → ∀ t, n ≤ t → t ∉ Region.ready md ops listed := by
  intro d
  induction d using Nat.strongRecOn with
  | _ d ih =>
    intro i hd hi hun t ht hr
    obtain ⟨_, ot, hot, hall⟩ := mem_ready.1 hr
    have htlt : t < ops.size := (Array.getElem?_eq_some_iff.1 hot).1
    have nope : ∀ j, Region.waitsFor md ops t j = true → listed.getD j false = false → False := fun j hj hl => by
      obtain ⟨o', ho', e, he, hb, hon⟩ := Region.waitsFor_spec hj
      obtain rfl : o' = ot := Option.some.inj (ho'.symm.trans hot)
      have h2 := hall e he hb
      rw [hon, hl] at h2
      cases h2
    by_cases htn : t = n
    · subst htn
      obtain ⟨j, hj, hj2⟩ := List.any_eq_true.1 (List.all_eq_true.1 hs i (List.mem_range.2 hi))
      simp only [Bool.and_eq_true, decide_eq_true_eq] at hj2
      by_cases hjt : j = t
      · subst hjt; exact nope i hj2.2 (getD_both hun)
      · have hjle : j < t := by have := List.mem_range.1 hj; omega
        cases hl : listed.getD j false with
        | true =>
          obtain ⟨oj, hoj, e, he, hb, hon⟩ := Region.waitsFor_spec hj2.2
          have h2 := inv.closed j oj hoj hl e he hb
          rw [hon, getD_both hun] at h2
          cases h2
        | false => exact ih (t - j) (by omega) j rfl hjle (getD_in (by rw [inv.size]; omega) hl) t (Nat.le_refl _) hr
    · have h1 := List.all_eq_true.1 hc t (List.mem_range.2 htlt)
      simp only [Bool.or_eq_true, decide_eq_true_eq, List.any_eq_true, Bool.and_eq_true, List.mem_range] at h1
      rcases h1 with h1 | ⟨j, hj, hnj, hw⟩
      · omega
      · exact nope j hw (getD_both (inv.tail j hnj (by omega)))

theorem wpAnyL_one {n i : Nat} {oi : Oper} {v : Value} {L : Array Bool → Act → Prop} (hi : ops[i]? = some oi) (hsel : ∀ (j : Nat) (o : Oper) cs b, ops[j]? = some o → o.op ≠ .select cs b)
    (hs : Region.sinkB md ops n = true) (hc : linkB md ops n = true) (hin : i < n)
    (hdone : ∀ listed a, L listed a → ∀ j ∈ Region.ready md ops listed, n ≤ j) :
    ∀ (f : Nat) (listed : Array Bool) (a : Act), HeadInv md ops n listed →
      (∀ j oj, ops[j]? = some oj → j ≠ i → listed.getD j true = false → (∀ e ∈ oj.after, Region.binds md e = true → e.on ≠ i) → oi.apart ops oj = true) →
      i ∈ Region.ready md ops listed → YieldsAt P ops w oi v a →
      wpAnyL P md ops w n L f (listed.setIfInBounds i true) (a.put oi.dst v) → wpAnyL P md ops w n L (f + 1) listed a := by
  intro f
  induction f with
  | zero =>
    intro listed a inv _ hr hy H
    refine ⟨fun h => (by rw [h] at hr; cases hr), fun j hj => ?_⟩
    have hjn : j < n := Nat.lt_of_not_le fun h => mid_waits hs hc inv _ i rfl hin (mem_ready.1 hr).1 j h hj
    refine ⟨hjn, ?_⟩
    by_cases hji : j = i
    · subst hji; exact hy.stOp hi H
    · have := hdone _ _ H j (ready_mono hj hji)
      omega
  | succ f ih =>
    intro listed a inv hfree hr hy H
    have hun := (mem_ready.1 hr).1
    refine ⟨fun h => (by rw [h] at hr; cases hr), fun j hj => ?_⟩
    have hjn : j < n := Nat.lt_of_not_le fun h => mid_waits hs hc inv _ i rfl hin hun j h hj
    refine ⟨hjn, ?_⟩
    by_cases hji : j = i
    · subst hji; exact hy.stOp hi H
    · obtain ⟨hjun, oj, hoj, hall⟩ := mem_ready.1 hj
      have hnot : ∀ e ∈ oj.after, Region.binds md e = true → e.on ≠ i := fun e he hb heq => by
        have h1 := hall e he hb
        rw [heq, getD_both hun] at h1
        cases h1
      have h2 := stOp_put hoj (hfree j oj hoj hji hjun hnot) (fun cs b => hsel i oi cs b hi) (fun cs b => hsel j oj cs b hoj) hy (H.2 j (ready_mono hj hji)).2
      refine stOp_mono (fun a' h3 => ih (listed.setIfInBounds j true) a' (inv.set hj hjn) (fun k ok hk hki hunk hno => hfree k ok hk hki ?_ hno) (ready_mono hr (Ne.symm hji)) h3.1 ?_) h2
      · by_cases hjk : j = k
        · subst hjk; exact hjun
        · rw [getD_set_ne true hjk] at hunk; exact hunk
      · rw [Array.setIfInBounds_comm _ _ hji]
        exact h3.2

/-- the head in the text's order; then n alone is ready; then the rest in the text's order -/
def midHead (md : Region.Mode) (ops : Array Oper) (n : Nat) : Nat → Nat → Array Bool → Bool
  | 0, _, listed => decide (Region.ready md ops listed = [n]) && Region.lexFrom md ops (ops.size - n - 1) (n + 1) (listed.setIfInBounds n true)
  | f + 1, k, listed => (Region.ready md ops listed).contains k && Region.free md ops listed k && midHead md ops n f (k + 1) (listed.setIfInBounds k true)

def midB (md : Region.Mode) (ops : Array Oper) (n : Nat) : Bool :=
  Region.noSelect ops && decide (n < ops.size) && Region.sinkB md ops n && linkB md ops n && midHead md ops n n 0 (Array.replicate ops.size false)

theorem wpAnyL_mid {n : Nat} {Lq : Act → Prop} (hsel : Region.noSelect ops = true) (hs : Region.sinkB md ops n = true) (hc : linkB md ops n = true) :
    ∀ (l : List Oper) (k : Nat) (listed : Array Bool) (a : Act), (∀ j, j < l.length → l[j]? = ops[k + j]?) → k + l.length = n → HeadInv md ops n listed →
    midHead md ops n l.length k listed = true → wpStill P ops w Lq l a →
    wpAnyL P md ops w n (fun listed' a' => (Region.ready md ops listed' = [n] ∧ Region.lexFrom md ops (ops.size - n - 1) (n + 1) (listed'.setIfInBounds n true) = true) ∧ Lq a') l.length listed a
  | [], k, listed, a, _, _, _, hB, h => by
    simp only [List.length_nil, midHead, Bool.and_eq_true, decide_eq_true_eq] at hB
    exact ⟨hB, h⟩
  | o :: l, k, listed, a, hl, hk, inv, hB, h => by
    have h0 : ops[k]? = some o := by simpa using (hl 0 (by simp)).symm
    simp only [List.length_cons, midHead, Bool.and_eq_true] at hB
    obtain ⟨⟨hr, hf⟩, hB'⟩ := hB
    have hkn : k < n := by simp only [List.length_cons] at hk; omega
    have hr' : k ∈ Region.ready md ops listed := by simpa using hr
    have hst : stOp P ops w k (wpStill P ops w Lq l) a := by unfold stOp; simp only [h0]; exact h
    obtain ⟨v, hy, hK⟩ := yieldsAt_of_stOp h0 hst
    exact wpAnyL_one h0 (Region.noSelect_spec hsel) hs hc hkn (fun listed' a' hL j hj => by rw [hL.1.1] at hj; simp at hj; omega) l.length listed a inv (Region.free_spec h0 hf) hr' hy
      (wpAnyL_mid hsel hs hc l (k + 1) _ _ (fun j hj => by have := hl (j + 1) (by simp; omega); simpa [Nat.add_assoc, Nat.add_comm 1 j] using this) (by simp only [List.length_cons] at hk; omega) (inv.set hr' hkn) hB' hK)

theorem wpOp_of_one {Q : Exit → Act → World → Prop} {n : Nat} {o : Oper} {K : Act → World → Prop} {a : Act} (ho : ops[n]? = some o) (h : wpList P ops (Exit.then K Q) [o] a w) : wpOp P ops Q n K a w := by
  unfold wpOp
  simp only [ho]
  unfold wpList at h
  split
  · rename_i hw
    rw [if_pos hw] at h
    rcases h with h | ⟨h1, a0, w0, h2⟩
    · left
      unfold Oper.wp at h ⊢
      generalize (execOp a.eval o).run P w = r at h ⊢
      cases r with
      | ok x w' =>
        cases x <;> exact h
      | halt x w' => cases x <;> exact h
    · exact .inr ⟨h1, a0, w0, h2⟩
  · rename_i hw
    rw [if_neg hw] at h
    exact h

/-- THE LAW: read, do, read. -/
theorem wp_region_mid {id : Nat} {Q : Exit → Act → World → Prop} {a : Act} {w : World} {l : List Oper} (n : Nat) (hm : P.follows .mixedOrders = true) (hB : midB .any l.toArray n = true)
    (h : wpStill P l.toArray w.drew (fun a' => wpList P l.toArray (Exit.then (fun a'' w'' => wpStill P l.toArray w'' (fun a3 => Q .normal a3 w'') (l.drop (n + 1)) a'') Q) ((l.drop n).take 1) a' w.drew) (l.take n) a) : (Code.region id l.toArray true).wp P Q a w := by
  simp only [midB, Bool.and_eq_true, decide_eq_true_eq] at hB
  obtain ⟨⟨⟨⟨hsel, hn⟩, hs⟩, hc⟩, hlex⟩ := hB
  have hn' : n < l.length := by simpa using hn
  have htl : (l.take n).length = n := by simp; omega
  have inv0 : HeadInv .any l.toArray n (Array.replicate l.toArray.size false) :=
    ⟨by simp, fun j oj _ hl => (by rw [getD_replicate_false] at hl; cases hl), fun t _ ht => getD_in (by simpa using ht) (getD_replicate_false _ _)⟩
  have H := wpAnyL_mid (md := .any) hsel hs hc (l.take n) 0 _ a (fun j hj => by
    have hj' : j < n := by rw [htl] at hj; exact hj
    simp [hj']) (by simpa using htl) inv0 (by rw [htl]; exact hlex) h
  refine wp_region_any hm ?_
  have ho : l.toArray[n]? = some l[n] := by simp [hn']
  have hd1 : (l.drop n).take 1 = [l[n]] := by
    rw [List.drop_eq_getElem_cons hn']; rfl
  obtain ⟨g, hg⟩ : ∃ g, l.toArray.size - n = g + 1 := ⟨l.toArray.size - n - 1, by omega⟩
  have hgs : g = (l.drop (n + 1)).length := by simp at hg ⊢; omega
  have hgt : l.toArray.size - n - 1 = g := by omega
  have := wpAny_of_head (Q' := Q) (g := l.toArray.size - n) (fun listed a' hL => by
    obtain ⟨⟨hrd, htail⟩, hw⟩ := hL
    rw [hg]
    refine ⟨fun h1 => (by rw [hrd] at h1; cases h1), fun i hi => ?_⟩
    rw [hrd] at hi
    obtain rfl : i = n := by simpa using hi
    rw [hd1] at hw
    refine wpOp_mono (fun a'' w'' h3 => ?_) (wpOp_of_one ho hw)
    rw [hgs]
    refine wpAny_of_still (Q := fun a3 => Q .normal a3 w'') (fun _ h => h) _ _ _ ?_
    refine wpAnyS_lex hsel (l.drop (i + 1)) (i + 1) _ a'' (fun j => by simp [List.getElem?_drop]) ?_ h3
    rw [← hgs, ← hgt]; exact htail) _ _ _ H
  rw [htl, show n + (l.toArray.size - n) = l.toArray.size by omega] at this
  exact this
end
end Go.Proofs.YtkclapimgmnldaaDoor
