/-
  Plain facts on lines that single laws want: no program in sight.
-/
import Derived.Test.YtkclapimgmnldaaDoorRoom
namespace Go.Proofs.YtkclapimgmnldaaDoor
set_option linter.unusedVariables false
set_option linter.unusedSimpArgs false
set_option maxRecDepth 20000

theorem linesFrom_join (b : List UInt8) (a : List UInt8) : ∀ cur : List UInt8, linesFrom cur (a ++ 10 :: b) = linesFrom cur (a ++ [10]) ++ lines b := by
  induction a with
  | nil =>
    intro cur
    simp [linesFrom_cons, linesFrom, lines]
  | cons c r ih =>
    intro cur
    rw [List.cons_append, List.cons_append, linesFrom_cons, linesFrom_cons]
    split
    · rw [ih []]; rfl
    · rw [ih _]
theorem lines_join (a b : List UInt8) : lines (a ++ 10 :: b) = lines (a ++ [10]) ++ lines b := linesFrom_join b a []

theorem nlAt_line {l : List UInt8} (h : ∀ c ∈ l, c ≠ 10) (r : List UInt8) : nlAt (l ++ 10 :: r) = some l.length := by
  induction l with
  | nil => simp [nlAt]
  | cons c l ih =>
    have hc := h c (by simp)
    rw [List.cons_append]
    unfold nlAt
    rw [if_neg hc, ih (fun x hx => h x (by simp [hx]))]
    simp
theorem noCR_none {l : List UInt8} (h : ∀ c ∈ l, c ≠ 13) : noCR l = l := by
  unfold noCR
  rw [if_neg]
  intro h1
  have := List.mem_of_getLast? h1
  exact h 13 this rfl
theorem lines_line {l : List UInt8} (h : ∀ c ∈ l, c ≠ 10 ∧ c ≠ 13) (r : List UInt8) : lines (l ++ 10 :: r) = l :: lines r := by
  rw [lines_some (nlAt_line (fun c hc => (h c hc).1) r)]
  have h1 : (l ++ 10 :: r).take l.length = l := by simp
  have h2 : (l ++ 10 :: r).drop (l.length + 1) = r := by
    rw [← List.drop_drop]; simp
  rw [h1, h2, noCR_none (fun c hc => (h c hc).2)]

/-- texts put together from lines -/
def joinL (ls : List (List UInt8)) : List UInt8 := ls.flatMap fun l => l ++ [10]
theorem joinL_snoc (ls : List (List UInt8)) (l : List UInt8) : joinL (ls ++ [l]) = joinL ls ++ (l ++ [10]) := by simp [joinL]
theorem lines_joinL (ls : List (List UInt8)) (h : ∀ l ∈ ls, ∀ c ∈ l, c ≠ 10 ∧ c ≠ 13) : lines (joinL ls) = ls := by
  induction ls with
  | nil => rfl
  | cons l ls ih =>
    have e : joinL (l :: ls) = l ++ 10 :: joinL ls := by simp [joinL]
    rw [e, lines_line (h l (by simp)), ih (fun x hx => h x (by simp [hx]))]

/-- a carriage return ahead of each newline -/
def withCR (t : List UInt8) : List UInt8 := t.flatMap fun c => if c = 10 then [13, 10] else [c]
theorem withCR_snoc (t : List UInt8) (c : UInt8) : withCR (t ++ [c]) = withCR t ++ (if c = 10 then [13, 10] else [c]) := by simp [withCR]
theorem withCR_len (t : List UInt8) : (withCR t).length ≤ 2 * t.length := by
  induction t with
  | nil => simp [withCR]
  | cons c r ih =>
    have e : withCR (c :: r) = (if c = 10 then [13, 10] else [c]) ++ withCR r := by simp [withCR]
    rw [e, List.length_append, List.length_cons]
    split <;> simp <;> omega
theorem linesFrom_withCR (t : List UInt8) : ∀ cur : List UInt8, (∀ c ∈ t, c ≠ 13) → (∀ c ∈ cur, c ≠ 13) → linesFrom cur (withCR t) = linesFrom cur t := by
  induction t with
  | nil => intro cur _ _; rfl
  | cons c r ih =>
    intro cur h1 h2
    have e : withCR (c :: r) = (if c = 10 then [13, 10] else [c]) ++ withCR r := by simp [withCR]
    rw [e, linesFrom_cons]
    by_cases hc : c = 10
    · rw [if_pos hc, if_pos hc]
      show linesFrom cur (13 :: 10 :: withCR r) = _
      rw [linesFrom_cons, if_neg (by decide), linesFrom_cons, if_pos rfl, ih [] (fun c hc => h1 c (by simp [hc])) (by simp), noCR_none h2]
      congr 1
      simp [noCR]
    · rw [if_neg hc, if_neg hc]
      show linesFrom cur (c :: withCR r) = _
      rw [linesFrom_cons, if_neg hc]
      refine ih _ (fun c hc => h1 c (by simp [hc])) (fun x hx => ?_)
      rcases List.mem_append.1 hx with hx | hx
      · exact h2 x hx
      · simp at hx; subst hx; exact h1 x (by simp)
theorem lines_withCR (t : List UInt8) (h : ∀ c ∈ t, c ≠ 13) : lines (withCR t) = lines t := linesFrom_withCR t [] h (by simp)

theorem noCR_mem {l : List UInt8} {c : UInt8} (h : c ∈ noCR l) : c ∈ l := by
  unfold noCR at h
  split at h
  · exact List.dropLast_subset _ h
  · exact h
theorem linesFrom_nonl (t : List UInt8) : ∀ (cur x : List UInt8), (∀ c ∈ cur, c ≠ 10) → x ∈ linesFrom cur t → ∀ c ∈ x, c ≠ 10 := by
  induction t with
  | nil =>
    intro cur x h hx
    simp only [linesFrom] at hx
    split at hx
    · cases hx
    · simp at hx; subst hx; exact h
  | cons a r ih =>
    intro cur x h hx
    rw [linesFrom_cons] at hx
    split at hx
    · rcases List.mem_cons.1 hx with rfl | hx
      · exact fun c hc => h c (noCR_mem hc)
      · exact ih [] x (by simp) hx
    · rename_i ha
      refine ih _ x (fun c hc => ?_) hx
      rcases List.mem_append.1 hc with hc | hc
      · exact h c hc
      · simp at hc; subst hc; exact ha
theorem lines_nonl {t x : List UInt8} (hx : x ∈ lines t) : ∀ c ∈ x, c ≠ 10 := linesFrom_nonl t [] x (by simp) hx

/-- newlines, and one more at the end -/
def nlTo (t : List UInt8) : Nat → Nat
  | 0 => 0
  | k + 1 => nlTo t k + (if t[k]? = some 10 ∨ k + 1 = t.length then 1 else 0)
theorem nlTo_succ (t : List UInt8) (k : Nat) : nlTo t (k + 1) = nlTo t k + (if t[k]? = some 10 ∨ k + 1 = t.length then 1 else 0) := rfl
theorem nlTo_le (t : List UInt8) (k : Nat) : nlTo t k ≤ k := by
  induction k with
  | zero => exact Nat.le_refl _
  | succ k ih => rw [nlTo_succ]; split <;> omega
theorem nlTo_lines (t : List UInt8) : ∀ k, k < t.length → nlTo t k = (linesTo t k).1.length := by
  intro k
  induction k with
  | zero => intro _; rfl
  | succ k ih =>
    intro h
    rw [nlTo_succ, linesTo_succ, ih (by omega)]
    by_cases h1 : t[k]? = some 10
    · rw [if_pos (.inl h1), if_pos h1]; simp
    · rw [if_neg (by rintro (h2 | h2); exact h1 h2; omega), if_neg h1]; rfl
theorem nlTo_all (t : List UInt8) : nlTo t t.length = (lines t).length := by
  rw [linesTo_end]
  cases hl : t.length with
  | zero =>
    obtain rfl : t = [] := List.length_eq_zero_iff.1 hl
    rfl
  | succ k =>
    have hk := nlTo_lines t k (by omega)
    rw [nlTo_succ, if_pos (.inr (by omega)), hk, linesTo_succ]
    have hle := linesTo_le t k
    by_cases h1 : t[k]? = some 10
    · rw [if_pos h1]; simp
    · rw [if_neg h1, if_pos (by omega)]; simp
end Go.Proofs.YtkclapimgmnldaaDoor
