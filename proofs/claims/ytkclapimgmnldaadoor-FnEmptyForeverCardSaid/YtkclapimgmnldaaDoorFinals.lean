/-
  A script whose first answer is final. No program in sight.
-/
import Derived.Test.YtkclapimgmnldaaDoorPlayed
namespace Go.Proofs.YtkclapimgmnldaaDoor
set_option linter.unusedVariables false
set_option linter.unusedSimpArgs false
set_option maxRecDepth 20000
section
variable {σ : Type}
/-- each answer is final: the first call of Scan gives its token, and it is done -/
theorem first_fin {split : σ → List UInt8 → Bool → Ans σ} {lim : Nat} {tog : Bool} {endE : Nat} {x x' : Sm σ} {o : Out} {tk : Option (List UInt8)} (hc : ∀ d b, (split x.sp d b).code = 1 ∧ (split x.sp d b).tok = tk) (hl : 0 < lim) (hp : x.pend = []) (hr : x.rest ≠ []) (he : x.err = none) (hd : x.done = false)
    (h : Sm.Scan split lim tog endE x o x') : o = some tk ∧ x'.done = true ∧ (x'.err = none ∨ x'.err = some endE) := by
  rcases h with ⟨h1, _⟩ | ⟨_, k, h⟩
  · rw [hd] at h1; cases h1
  have hpre : Sm.pre split lim x = .inr x := by
    unfold Sm.pre Sm.after
    rw [hp, he]
    simp
    omega
  cases k with
  | zero =>
    have h' : Sm.pre split lim x = .inl (o, x') := h
    rw [hpre] at h'; cases h'
  | succ k =>
    obtain ⟨s1, s2, h1, h2, h3⟩ := h
    rw [hpre] at h1
    cases h1
    have hsp2 : s2.sp = x.sp := by
      rcases h2 with ⟨_, rfl⟩ | ⟨n, _, _, _, rfl⟩
      · rfl
      · split <;> rfl
    have hs2 : s2.pend ≠ [] ∧ (s2.err = none ∨ s2.err = some endE) := by
      rcases h2 with ⟨h4, _⟩ | ⟨n, h4, h5, _, rfl⟩
      · exact absurd h4 hr
      · have hne : x.pend ++ x.rest.take n ≠ [] := by
          rw [hp, List.nil_append]
          intro e
          have := congrArg List.length e
          rw [List.length_take, List.length_nil] at this
          omega
        split
        · exact ⟨hne, .inr rfl⟩
        · exact ⟨hne, .inl he⟩
    have hpre2 : Sm.pre split lim s2 = .inl (some tk, { s2 with done := true, sp := (split x.sp s2.pend s2.err.isSome).sp }) := by
      unfold Sm.pre
      rw [if_pos (.inl hs2.1)]
      unfold Sm.took
      rw [hsp2, if_pos (hc _ _).1, (hc _ _).2]
      cases tk <;> rfl
    cases k with
    | zero =>
      have h' : Sm.pre split lim s2 = .inl (o, x') := h3
      rw [hpre2] at h'
      cases h'
      exact ⟨rfl, rfl, hs2.2⟩
    | succ k =>
      obtain ⟨_, _, h4, _⟩ := h3
      rw [hpre2] at h4; cases h4
/-- what a run comes to where each answer is final -/
theorem final_runs {split : σ → List UInt8 → Bool → Ans σ} {lim : Nat} {tog : Bool} {endE : Nat} {x x' : Sm σ} {n : Nat} {ts : List (List UInt8)} {ended pan : Bool} {tk : Option (List UInt8)} (hc : ∀ d b, (split x.sp d b).code = 1 ∧ (split x.sp d b).tok = tk) (hl : 0 < lim) (hp : x.pend = []) (hr : x.rest ≠ []) (he : x.err = none) (hd : x.done = false)
    (hn : tk.toList.length < n) (h : RunsTo split lim tog endE x n ts x' ended pan) : ts = tk.toList ∧ ended = true ∧ pan = false ∧ (x'.err = none ∨ x'.err = some endE) := by
  obtain ⟨x1, h1, h2⟩ := h
  have hJ : (ts = [] ∧ x1 = x) ∨ (∃ t, tk = some t ∧ ts = [t] ∧ x1.done = true ∧ (x1.err = none ∨ x1.err = some endE)) := by
    refine h1.inv (J := fun ts x1 => (ts = [] ∧ x1 = x) ∨ (∃ t, tk = some t ∧ ts = [t] ∧ x1.done = true ∧ (x1.err = none ∨ x1.err = some endE))) (.inl ⟨rfl, rfl⟩) ?_
    rintro ts y t y' (⟨rfl, rfl⟩ | ⟨t', e, rfl, h3, h4⟩) hs
    · obtain ⟨e1, e2, e3⟩ := first_fin hc hl hp hr he hd hs
      exact .inr ⟨t, (Option.some.inj e1).symm, rfl, e2, e3⟩
    · have := (done_scan h3 hs).1
      cases this
  rcases hJ with ⟨rfl, rfl⟩ | ⟨t, rfl, rfl, hx, hxe⟩
  · rcases h2 with ⟨h3, rfl, rfl, rfl⟩ | ⟨h3, hs, rfl, rfl⟩ | ⟨h3, hs, rfl, rfl⟩
    · simp at h3; omega
    · obtain ⟨e1, e2, e3⟩ := first_fin hc hl hp hr he hd hs
      obtain rfl := Option.some.inj e1
      exact ⟨rfl, rfl, rfl, e3⟩
    · have := (first_fin hc hl hp hr he hd hs).1
      cases this
  · rcases h2 with ⟨h3, rfl, rfl, rfl⟩ | ⟨h3, hs, rfl, rfl⟩ | ⟨h3, hs, rfl, rfl⟩
    · simp at h3 hn; omega
    · obtain ⟨_, rfl⟩ := done_scan hx hs
      exact ⟨rfl, rfl, rfl, hxe⟩
    · have := (done_scan hx hs).1
      cases this

end
end Go.Proofs.YtkclapimgmnldaaDoor
