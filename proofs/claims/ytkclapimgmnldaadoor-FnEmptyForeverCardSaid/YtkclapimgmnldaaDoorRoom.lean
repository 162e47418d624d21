/-
  Rooms and what has room in them, in plain words: no program in sight.
-/
import Derived.Test.YtkclapimgmnldaaDoorToks
namespace Go.Proofs.YtkclapimgmnldaaDoor
set_option linter.unusedVariables false
set_option linter.unusedSimpArgs false
set_option maxRecDepth 20000

/-- the number that a token's size must be less than -/
def limitN (d : Bool) (c m : Int) : Nat := if d then 65536 else max c.toNat m.toNat
/-- a room's memory is within what a machine has -/
def sizedB (d : Bool) (c m : Int) : Bool := d || (decide (c ≤ 1000000) && decide (m ≤ 1000000))
/-- a text ends with a carriage return -/
def looseB (t : List UInt8) : Bool := t.getLast? == some 13
/-- all texts, with some more bytes each, are shorter than a number -/
def belowB (xs : List (List UInt8)) (more n : Int) : Bool := xs.all fun x => decide ((x.length : Int) + more < n)
/-- the lines of a text are fixed in a room -/
def linedB (t : List UInt8) (d : Bool) (c m : Int) : Bool := sizedB d c m && decide (3 ≤ limitN d c m) && !looseB t && belowB (lines t) 2 (limitN d c m)

theorem limitN_le {d : Bool} {c m : Int} (h : sizedB d c m = true) : limitN d c m ≤ 1000000 := by
  unfold sizedB at h
  unfold limitN
  cases d with
  | true => simp
  | false =>
    simp at h
    simp
    omega
theorem sizedB_cases {d : Bool} {c m : Int} (h : sizedB d c m = true) : d = true ∨ (d = false ∧ c ≤ 1000000 ∧ m ≤ 1000000) := by
  unfold sizedB at h
  cases d with
  | true => exact .inl rfl
  | false =>
    simp at h
    exact .inr ⟨rfl, h⟩
theorem belowB_roomy {t : List UInt8} {n : Nat} (h : belowB (lines t) 2 n = true) : Roomy n t := by
  intro l hl
  unfold belowB at h
  have := List.all_eq_true.1 h l hl
  simp at this
  omega
structure LinedF (t : List UInt8) (d : Bool) (c m : Int) : Prop where
  sized : sizedB d c m = true
  three : 3 ≤ limitN d c m
  last : t.getLast? ≠ some 13
  roomy : Roomy (limitN d c m) t
theorem LinedF.of {t : List UInt8} {d : Bool} {c m : Int} (h : linedB t d c m = true) : LinedF t d c m := by
  unfold linedB at h
  simp only [Bool.and_eq_true, decide_eq_true_eq] at h
  obtain ⟨⟨⟨h1, h2⟩, h3⟩, h4⟩ := h
  refine ⟨h1, h2, ?_, belowB_roomy h4⟩
  intro h5
  rw [looseB, h5] at h3
  simp at h3
theorem LinedF.tokens {t : List UInt8} {d : Bool} {c m : Int} (h : LinedF t d c m) : tokens t = lines t := tokens_lines t.length t (Nat.le_refl _) h.last

theorem toks_len (n : Nat) : ∀ t : List UInt8, (toks n t).length ≤ n := by
  induction n with
  | zero => intro t; simp [toks]
  | succ n ih =>
    intro t
    simp only [toks]
    split
    · simp
    · have := ih (behind t)
      simp; omega
theorem tokens_len (t : List UInt8) : (Go.Proofs.YtkclapimgmnldaaDoor.tokens t).length ≤ t.length := toks_len _ _
theorem linesFrom_len (t : List UInt8) : ∀ cur : List UInt8, (linesFrom cur t).length ≤ t.length + (if cur = [] then 0 else 1) := by
  induction t with
  | nil => intro cur; simp only [linesFrom]; split <;> simp
  | cons c r ih =>
    intro cur
    rw [linesFrom_cons]
    split
    · have := ih []
      simp at this
      simp; omega
    · have := ih (cur ++ [c])
      simp at this
      simp; omega
theorem lines_len (t : List UInt8) : (lines t).length ≤ t.length := by
  have := linesFrom_len t []
  simpa [lines] using this
end Go.Proofs.YtkclapimgmnldaaDoor
