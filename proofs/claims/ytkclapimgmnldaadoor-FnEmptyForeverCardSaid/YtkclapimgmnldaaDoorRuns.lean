/-
  All runs of a scanner of lines, in plain words.
-/
import Derived.Test.YtkclapimgmnldaaDoorTexts
import Derived.Test.YtkclapimgmnldaaDoorToks
namespace Go.Proofs.YtkclapimgmnldaaDoor
set_option linter.unusedVariables false
set_option linter.unusedSimpArgs false
set_option maxRecDepth 20000

/-- All runs of a scanner of lines. -/
theorem lines_runs (lim : Nat) (tog : Bool) (endE : Nat) (hlim : 0 < lim) : ∀ (n : Nat) (x : Sm Unit) (ts : List (List UInt8)), (x.pend ++ x.rest).length ≤ n → Fine endE x → Roomy lim (x.pend ++ x.rest) →
    Runs splitLines lim tog endE (fun ts' x' => ts' = ts ++ tokens (x.pend ++ x.rest) ∧ Fine endE x' ∧ x'.pend = [] ∧ x'.rest = [] ∧ x'.err = some endE) n x ts := by
  intro n
  induction n with
  | zero =>
    intro x ts hn hx hr o x' hs
    have h0 : x.pend ++ x.rest = [] := List.length_eq_zero_iff.1 (by omega)
    rcases hs with ⟨h, _⟩ | ⟨_, k, hs⟩
    · rw [hx.1] at h; cases h
    · obtain ⟨h1, h2, _⟩ := scan_lines lim tog endE k x o x' hs hx (fun h => absurd h0 h) hlim
      obtain ⟨h3, h4⟩ := h2 h0
      exact ⟨h3, by rw [h0]; simp [tokens_nil], h1, h4⟩
  | succ n ih =>
    intro x ts hn hx hr o x' hs
    rcases hs with ⟨h, _⟩ | ⟨_, k, hs⟩
    · rw [hx.1] at h; cases h
    · obtain ⟨h1, h2, h3⟩ := scan_lines lim tog endE k x o x' hs hx (fun h => hr.fits h) hlim
      by_cases h0 : x.pend ++ x.rest = []
      · obtain ⟨h4, h5⟩ := h2 h0
        exact .inl ⟨h4, by rw [h0]; simp [tokens_nil], h1, h5⟩
      · obtain ⟨h4, h5⟩ := h3 h0
        refine .inr ⟨_, h4, ?_⟩
        have hb := behind_lt h0
        have := ih x' (ts ++ [firstLine (x.pend ++ x.rest)]) (by rw [h5]; omega) h1 (by rw [h5]; exact hr.behind)
        rw [h5, List.append_assoc] at this
        rw [tokens_cons h0]
        exact this
end Go.Proofs.YtkclapimgmnldaaDoor
