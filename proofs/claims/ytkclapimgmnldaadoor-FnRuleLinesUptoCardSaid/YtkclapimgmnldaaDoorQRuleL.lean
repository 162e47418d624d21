/-
  A rule of newlines makes the lines, but for the carriage returns. No program in sight.
-/
import Derived.Test.YtkclapimgmnldaaDoorQQ
import Derived.Test.YtkclapimgmnldaaDoorQP
namespace Go.Proofs.YtkclapimgmnldaaDoor
set_option linter.unusedVariables false
set_option linter.unusedSimpArgs false
set_option maxRecDepth 20000

/-- the rule of newlines -/
def ruleNL : Rl := ⟨[false, false, false, false, false, false, false, false, false, false, true], false, false, -1, -1⟩
theorem brk_list_lt (bs : List Bool) (b : UInt8) (P : Nat → Prop) [DecidablePred P] (h : ∀ n, n < 256 → bs.getD n false = decide (P n)) : bs.getD b.toNat false = decide (P b.toNat) := h _ (UInt8.toNat_lt _)
theorem ruleNL_brk (b : UInt8) : ruleNL.brk b = decide (b = 10) := by
  have h : ∀ n, n < 256 → ruleNL.brks.getD n false = decide (n = 10) := by decide
  have h1 := h b.toNat (UInt8.toNat_lt _)
  have h2 : (b.toNat = 10) ↔ (b = 10) := by
    constructor
    · intro h; exact UInt8.toNat_inj.1 h
    · rintro rfl; rfl
  unfold Rl.brk
  rw [h1]
  simp [h2]
theorem nl_fail (b : UInt8) : ¬ (b.toNat : Int) = ruleNL.fail := by show ¬ (b.toNat : Int) = -1; omega
theorem nl_stop (b : UInt8) : ¬ (b.toNat : Int) = ruleNL.stop := by show ¬ (b.toNat : Int) = -1; omega
theorem noCR_id {l : List UInt8} (h : l.getLast? ≠ some 13) : noCR l = l := by unfold noCR; rw [if_neg h]
theorem toks_lines : ∀ (l cur : List UInt8), (cur ++ l).getLast? ≠ some 13 → (toksR ruleNL cur l).1.map noCR = linesFrom cur l ∧ (toksR ruleNL cur l).2 = false := by
  intro l
  induction l with
  | nil =>
    intro cur h
    rw [List.append_nil] at h
    simp only [toksR, linesFrom]
    by_cases hc : cur = []
    · simp [hc]
    · simp only [if_neg hc, List.map_cons, List.map_nil, noCR_id h, and_self]
  | cons b r ih =>
    intro cur h
    simp only [toksR, linesFrom]
    rw [if_neg (nl_fail b), if_neg (nl_stop b), ruleNL_brk]
    by_cases hb : b = 10
    · subst hb
      have hr : ([] ++ r).getLast? ≠ some 13 := by
        rw [List.nil_append]
        cases r with
        | nil => simp
        | cons c q => simpa [List.getLast?_append] using h
      rw [if_neg (by simp), if_neg (by simp [ruleNL]), if_neg (by simp [ruleNL]), if_pos rfl]
      obtain ⟨h1, h2⟩ := ih [] hr
      exact ⟨by rw [List.map_cons, h1], h2⟩
    · rw [if_pos (by simp [hb]), if_neg hb]
      exact ih (cur ++ [b]) (by simpa using h)
theorem fits_lines {lim : Nat} (hl : 0 < lim) : ∀ (l cur : List UInt8), (∀ x ∈ linesFrom cur l, x.length + 2 < lim) → fitsR ruleNL lim cur l := by
  intro l
  induction l with
  | nil =>
    intro cur h
    simp only [fitsR, linesFrom] at h ⊢
    by_cases hc : cur = []
    · rw [hc]; exact hl
    · rw [if_neg hc] at h
      have := h cur (by simp)
      omega
  | cons b r ih =>
    intro cur h
    simp only [fitsR, linesFrom] at h ⊢
    rw [if_neg (nl_fail b), if_neg (nl_stop b), ruleNL_brk]
    by_cases hb : b = 10
    · subst hb
      rw [if_neg (by simp), if_neg (by simp [ruleNL])]
      rw [if_pos rfl] at h
      have h1 := h (noCR cur) (by simp)
      have h2 := noCR_len cur
      exact ⟨by omega, ih [] (fun x hx => h x (List.mem_cons_of_mem _ hx))⟩
    · rw [if_pos (by simp [hb])]
      rw [if_neg hb] at h
      exact ih _ h
theorem lines_ruled {t : List UInt8} (h : t.getLast? ≠ some 13) : (toksR ruleNL [] t).1.map noCR = lines t ∧ (toksR ruleNL [] t).2 = false := toks_lines t [] (by simpa using h)
theorem fits_roomy {lim : Nat} {t : List UInt8} (hl : 0 < lim) (h : Roomy lim t) : fitsR ruleNL lim [] t := fits_lines hl t [] h
end Go.Proofs.YtkclapimgmnldaaDoor
