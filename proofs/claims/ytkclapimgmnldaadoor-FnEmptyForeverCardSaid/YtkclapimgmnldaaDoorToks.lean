/-
  All tokens of a scanner of lines, in plain words.
-/
import Derived.Test.YtkclapimgmnldaaDoorSpecLines
namespace Go.Proofs.YtkclapimgmnldaaDoor
set_option linter.unusedVariables false
set_option linter.unusedSimpArgs false
set_option maxRecDepth 20000

theorem linesFrom_some (t : List UInt8) : ∀ (cur : List UInt8) (i : Nat), nlAt t = some i → linesFrom cur t = noCR (cur ++ t.take i) :: linesFrom [] (t.drop (i + 1)) := by
  induction t with
  | nil => intro cur i h; simp [nlAt] at h
  | cons c r ih =>
    intro cur i h
    unfold nlAt at h
    rw [linesFrom_cons]
    by_cases hc : c = 10
    · rw [if_pos hc] at h ⊢
      obtain rfl : i = 0 := (Option.some.inj h).symm
      simp
    · rw [if_neg hc] at h ⊢
      obtain ⟨k, hk, rfl⟩ := Option.map_eq_some_iff.1 h
      rw [ih _ k hk]
      simp
theorem linesFrom_none (t : List UInt8) : ∀ (cur : List UInt8), nlAt t = none → linesFrom cur t = if cur ++ t = [] then [] else [cur ++ t] := by
  induction t with
  | nil => intro cur _; simp [linesFrom]
  | cons c r ih =>
    intro cur h
    unfold nlAt at h
    rw [linesFrom_cons]
    by_cases hc : c = 10
    · rw [if_pos hc] at h; cases h
    · rw [if_neg hc] at h ⊢
      rw [ih _ (by simpa using h)]
      simp
theorem lines_some {t : List UInt8} {i : Nat} (h : nlAt t = some i) : lines t = noCR (t.take i) :: lines (t.drop (i + 1)) := by
  have := linesFrom_some t [] i h
  simpa [lines] using this
theorem lines_none {t : List UInt8} (h : nlAt t = none) (h0 : t ≠ []) : lines t = [t] := by
  have := linesFrom_none t [] h
  rw [List.nil_append, if_neg h0] at this
  exact this
theorem lines_nil : lines [] = [] := rfl

/-- the tokens: the lines, the last one without a carriage return too -/
def toks : Nat → List UInt8 → List (List UInt8)
  | 0, _ => []
  | n + 1, t => if t = [] then [] else firstLine t :: toks n (behind t)
theorem behind_lt {t : List UInt8} (h : t ≠ []) : (behind t).length < t.length := by
  have := List.length_pos_iff.2 h
  unfold behind
  split
  · rename_i i hi
    simp; omega
  · simpa using this
theorem toks_more (n : Nat) : ∀ (m : Nat) (t : List UInt8), t.length ≤ n → t.length ≤ m → toks n t = toks m t := by
  induction n with
  | zero =>
    intro m t h _
    obtain rfl : t = [] := List.length_eq_zero_iff.1 (by omega)
    cases m <;> simp [toks]
  | succ n ih =>
    intro m t h1 h2
    cases m with
    | zero =>
      obtain rfl : t = [] := List.length_eq_zero_iff.1 (by omega)
      simp [toks]
    | succ m =>
      simp only [toks]
      by_cases h0 : t = []
      · rw [if_pos h0, if_pos h0]
      · rw [if_neg h0, if_neg h0]
        have := behind_lt h0
        rw [ih m (behind t) (by omega) (by omega)]
def tokens (t : List UInt8) : List (List UInt8) := toks t.length t
theorem tokens_nil : tokens [] = [] := rfl
theorem tokens_cons {t : List UInt8} (h : t ≠ []) : tokens t = firstLine t :: tokens (behind t) := by
  have h1 := behind_lt h
  unfold tokens
  obtain ⟨n, hn⟩ : ∃ n, t.length = n + 1 := ⟨t.length - 1, by omega⟩
  rw [hn]
  rw [show toks (n + 1) t = firstLine t :: toks n (behind t) by simp [toks, h]]
  rw [toks_more n (behind t).length (behind t) (by omega) (Nat.le_refl _)]
theorem tokens_some {t : List UInt8} {i : Nat} (h : nlAt t = some i) : tokens t = noCR (t.take i) :: tokens (t.drop (i + 1)) := by
  have h0 : t ≠ [] := fun e => by rw [e] at h; simp [nlAt] at h
  rw [tokens_cons h0]
  simp [firstLine, behind, h]
theorem tokens_none {t : List UInt8} (h : nlAt t = none) (h0 : t ≠ []) : tokens t = [noCR t] := by
  rw [tokens_cons h0]
  simp [firstLine, behind, h, tokens_nil]

/-- where the text does not end with a carriage return, the tokens are the lines -/
theorem tokens_lines : ∀ (n : Nat) (t : List UInt8), t.length ≤ n → t.getLast? ≠ some 13 → tokens t = lines t := by
  intro n
  induction n with
  | zero =>
    intro t h _
    obtain rfl : t = [] := List.length_eq_zero_iff.1 (by omega)
    rfl
  | succ n ih =>
    intro t h hl
    by_cases h0 : t = []
    · subst h0; rfl
    · cases hn : nlAt t with
      | none =>
        rw [tokens_none hn h0, lines_none hn h0]
        simp [noCR, hl]
      | some i =>
        have hlt := (nlAt_some hn).2.2
        rw [tokens_some hn, lines_some hn, ih (t.drop (i + 1)) (by simp; omega) ?_]
        rw [List.getLast?_drop]
        split
        · simp
        · exact hl
/-- where it does, the last one loses it -/
theorem tokens_loose : ∀ (n : Nat) (t : List UInt8), t.length ≤ n → t.getLast? = some 13 → ∃ l z, lines t = l ++ [z] ∧ z.getLast? = some 13 ∧ tokens t = l ++ [z.dropLast] := by
  intro n
  induction n with
  | zero =>
    intro t h h1
    obtain rfl : t = [] := List.length_eq_zero_iff.1 (by omega)
    simp at h1
  | succ n ih =>
    intro t h hl
    have h0 : t ≠ [] := fun e => by rw [e] at hl; simp at hl
    cases hn : nlAt t with
    | none =>
      refine ⟨[], t, ?_, hl, ?_⟩
      · rw [lines_none hn h0]; rfl
      · rw [tokens_none hn h0]
        simp [noCR, hl]
    | some i =>
      have hlt := (nlAt_some hn).2.2
      have hi := (nlAt_some hn).1
      have hd : (t.drop (i + 1)).getLast? = some 13 := by
        rw [List.getLast?_drop]
        rw [if_neg]
        · exact hl
        · intro hle
          rw [List.getLast?_eq_getElem?, show t.length - 1 = i by omega, hi] at hl
          cases hl
      obtain ⟨l, z, h1, h2, h3⟩ := ih (t.drop (i + 1)) (by simp; omega) hd
      refine ⟨noCR (t.take i) :: l, z, ?_, h2, ?_⟩
      · rw [lines_some hn, h1]; rfl
      · rw [tokens_some hn, h3]; rfl

/-- all lines have room -/
def Roomy (lim : Nat) (t : List UInt8) : Prop := ∀ l ∈ lines t, l.length + 2 < lim
theorem noCR_len (d : List UInt8) : d.length ≤ (noCR d).length + 1 := by
  unfold noCR; split
  · simp; omega
  · omega
theorem Roomy.fits {lim : Nat} {t : List UInt8} (h : Roomy lim t) (h0 : t ≠ []) : fits lim t := by
  unfold Go.Proofs.YtkclapimgmnldaaDoor.fits
  split
  · rename_i i hi
    have hlt := (nlAt_some hi).2.2
    have := h (noCR (t.take i)) (by rw [lines_some hi]; simp)
    have h2 := noCR_len (t.take i)
    simp at h2
    omega
  · rename_i hi
    have := h t (by rw [lines_none hi h0]; simp)
    omega
theorem Roomy.behind {lim : Nat} {t : List UInt8} (h : Roomy lim t) : Roomy lim (behind t) := by
  intro l hl
  unfold Go.Proofs.YtkclapimgmnldaaDoor.behind at hl
  split at hl
  · rename_i i hi
    exact h l (by rw [lines_some hi]; simp [hl])
  · simp [lines_nil] at hl
end Go.Proofs.YtkclapimgmnldaaDoor
