/-
  Lines, in plain words: no program in sight.
-/
import Derived.Test.YtkclapimgmnldaaDoorModel
namespace Go.Proofs.YtkclapimgmnldaaDoor
set_option linter.unusedVariables false
set_option linter.unusedSimpArgs false
set_option maxRecDepth 20000

/-- the place of the first newline -/
def nlAt : List UInt8 → Option Nat
  | [] => none
  | c :: r => if c = 10 then some 0 else (nlAt r).map (· + 1)

/-- without one carriage return at the end -/
def noCR (l : List UInt8) : List UInt8 := if l.getLast? = some 13 then l.dropLast else l

/-- the lines of a text, as the reference makes them; cur is what stands behind the last newline -/
def linesFrom (cur : List UInt8) : List UInt8 → List (List UInt8)
  | [] => if cur = [] then [] else [cur]
  | c :: r => if c = 10 then noCR cur :: linesFrom [] r else linesFrom (cur ++ [c]) r
def lines (t : List UInt8) : List (List UInt8) := linesFrom [] t

/-- what ScanLines answers -/
def splitLines (_ : Unit) (d : List UInt8) (eof : Bool) : Ans Unit :=
  match nlAt d with
  | some i => ⟨(), ((i + 1 : Nat) : Int), some (noCR (d.take i)), 0⟩
  | none => if eof && !d.isEmpty then ⟨(), (d.length : Int), some (noCR d), 0⟩ else ⟨(), 0, none, 0⟩

theorem nlAt_some {d : List UInt8} : ∀ {i : Nat}, nlAt d = some i → d[i]? = some 10 ∧ (∀ j, j < i → d[j]? ≠ some 10) ∧ i < d.length := by
  induction d with
  | nil => intro i h; simp [nlAt] at h
  | cons c r ih =>
    intro i h
    unfold nlAt at h
    by_cases hc : c = 10
    · rw [if_pos hc] at h
      obtain rfl : i = 0 := (Option.some.inj h).symm
      exact ⟨by simp [hc], fun j hj => by omega, by simp⟩
    · rw [if_neg hc] at h
      obtain ⟨k, hk, rfl⟩ := Option.map_eq_some_iff.1 h
      obtain ⟨h1, h2, h3⟩ := ih hk
      refine ⟨by simpa using h1, fun j hj => ?_, by simp; omega⟩
      cases j with
      | zero => simpa using hc
      | succ j => simpa using h2 j (by omega)
theorem nlAt_none {d : List UInt8} : nlAt d = none → ∀ j : Nat, d[j]? ≠ some 10 := by
  induction d with
  | nil => intro _ j; simp
  | cons c r ih =>
    intro h j
    unfold nlAt at h
    by_cases hc : c = 10
    · rw [if_pos hc] at h; cases h
    · rw [if_neg hc] at h
      have := ih (by simpa using h)
      cases j with
      | zero => simpa using hc
      | succ j => simpa using this j
theorem nlAt_append_some {a : List UInt8} {i : Nat} (h : nlAt a = some i) (b : List UInt8) : nlAt (a ++ b) = some i := by
  induction a generalizing i with
  | nil => simp [nlAt] at h
  | cons c r ih =>
    unfold nlAt at h
    rw [List.cons_append]
    unfold nlAt
    by_cases hc : c = 10
    · rw [if_pos hc] at h ⊢; exact h
    · rw [if_neg hc] at h ⊢
      obtain ⟨k, hk, rfl⟩ := Option.map_eq_some_iff.1 h
      rw [ih hk]; rfl
theorem nlAt_append_none {a : List UInt8} (h : nlAt a = none) (b : List UInt8) : nlAt (a ++ b) = (nlAt b).map (· + a.length) := by
  induction a with
  | nil => simp
  | cons c r ih =>
    unfold nlAt at h
    by_cases hc : c = 10
    · rw [if_pos hc] at h; cases h
    · rw [if_neg hc] at h
      rw [List.cons_append]
      rw [show nlAt (c :: (r ++ b)) = (nlAt (r ++ b)).map (· + 1) by simp [nlAt, hc], ih (by simpa using h)]
      cases nlAt b <;> simp; omega

/-- the first line, and what stands behind it -/
def firstLine (t : List UInt8) : List UInt8 := match nlAt t with | some i => noCR (t.take i) | none => noCR t
def behind (t : List UInt8) : List UInt8 := match nlAt t with | some i => t.drop (i + 1) | none => []
/-- the first line has room -/
def fits (lim : Nat) (t : List UInt8) : Prop := match nlAt t with | some i => i < lim | none => t.length < lim

/-- a state of a scanner of lines that a run comes to: an error other than none comes only when all is read -/
def Fine (endE : Nat) (x : Sm Unit) : Prop := x.done = false ∧ x.emp = 0 ∧ ((x.err = none) ∨ (x.err = some endE ∧ x.rest = []))

/-- A round on lines, case by case. -/
theorem pre_lines (lim : Nat) (x : Sm Unit) : Sm.pre splitLines lim x =
    match nlAt x.pend with
    | some i => .inl (some (some (noCR (x.pend.take i))), { x with pend := x.pend.drop (i + 1), emp := 0 })
    | none => if x.err.isSome then (if x.pend = [] then .inl (some none, { x with pend := [] }) else .inl (some (some (noCR x.pend)), { x with pend := [], emp := 0 }))
      else if x.pend.length = lim then .inl (some none, x.setErr cTooLong) else .inr x := by
  obtain ⟨pend, rest, err, emp, done, sp⟩ := x
  cases hn : nlAt pend with
  | some i =>
    have hp : pend ≠ [] := fun h => by rw [h] at hn; simp [nlAt] at hn
    have hlt := (nlAt_some hn).2.2
    have h1 : ¬ ((i : Int) + 1 < 0) := by omega
    have h2 : ¬ ((pend.length : Int) < (i : Int) + 1) := by omega
    have h3 : (0 : Int) < (i : Int) + 1 := by omega
    simp only [Sm.pre, hp, ne_eq, not_false_eq_true, true_or, if_true, splitLines, hn, Sm.took]
    simp [h1, h2, h3]
  | none =>
    cases err with
    | some c =>
      by_cases hp : pend = []
      · subst hp
        simp [Sm.pre, splitLines, hn, Sm.took, Sm.after]
      · have h1 : ¬ ((pend.length : Nat) : Int) < 0 := by omega
        have he : pend.isEmpty = false := by cases pend with | nil => exact absurd rfl hp | cons _ _ => rfl
        simp only [Sm.pre, hp, ne_eq, not_false_eq_true, true_or, if_true, splitLines, hn, Sm.took, Option.isSome_some, he, Bool.not_false, Bool.and_self]
        simp [h1, hp]
    | none =>
      by_cases hp : pend = []
      · subst hp
        simp [Sm.pre, Sm.after]
      · have h1 : ¬ ((pend.length : Nat) : Int) < 0 := by omega
        simp [Sm.pre, hp, splitLines, hn, Sm.took, Sm.after, h1]

/-- Scan on lines never panics. -/
theorem lines_live (lim : Nat) (tog : Bool) (endE : Nat) : ∀ (k : Nat) (x : Sm Unit) (o : Out) (x' : Sm Unit), Sm.LoopN splitLines lim tog endE k x o x' → o ≠ none := by
  intro k
  induction k with
  | zero =>
    intro x o x' h
    simp only [Sm.LoopN, pre_lines] at h
    split at h
    · cases h; simp
    · split at h
      · split at h <;> cases h <;> simp
      · split at h
        · cases h; simp
        · cases h
  | succ k ih =>
    rintro x o x' ⟨x1, x2, _, _, h⟩
    exact ih _ _ _ h

theorem behind_drop {a b : List UInt8} {i : Nat} (h : nlAt a = some i) : behind (a ++ b) = a.drop (i + 1) ++ b := by
  have hlt := (nlAt_some h).2.2
  simp only [behind, nlAt_append_some h b]
  rw [List.drop_append_of_le_length (by omega)]
theorem firstLine_app {a b : List UInt8} {i : Nat} (h : nlAt a = some i) : firstLine (a ++ b) = noCR (a.take i) := by
  have hlt := (nlAt_some h).2.2
  simp only [firstLine, nlAt_append_some h b]
  rw [List.take_append_of_le_length (by omega)]

/-- One call of Scan on lines: the next line, or the end. -/
theorem scan_lines (lim : Nat) (tog : Bool) (endE : Nat) : ∀ (k : Nat) (x : Sm Unit) (o : Out) (x' : Sm Unit), Sm.LoopN splitLines lim tog endE k x o x' → Fine endE x → (x.pend ++ x.rest ≠ [] → fits lim (x.pend ++ x.rest)) → 0 < lim →
    Fine endE x' ∧ (x.pend ++ x.rest = [] → o = some none ∧ x'.pend = [] ∧ x'.rest = [] ∧ x'.err = some endE) ∧ (x.pend ++ x.rest ≠ [] → o = some (some (firstLine (x.pend ++ x.rest))) ∧ x'.pend ++ x'.rest = behind (x.pend ++ x.rest)) := by
  intro k
  induction k with
  | zero =>
    rintro x o x' h ⟨hd, hm, he⟩ hfit hlim
    simp only [Sm.LoopN, pre_lines] at h
    split at h
    · rename_i i hi
      cases h
      refine ⟨⟨hd, rfl, he⟩, fun h0 => ?_, fun _ => ⟨by rw [firstLine_app hi], (behind_drop hi).symm⟩⟩
      have := (List.append_eq_nil_iff.1 h0).1
      rw [this] at hi; simp [nlAt] at hi
    · rename_i hi
      split at h
      · rename_i hx
        have hr : x.err = some endE ∧ x.rest = [] := he.resolve_left fun h0 => by rw [h0] at hx; simp at hx
        split at h
        · rename_i hp
          cases h
          refine ⟨⟨hd, hm, .inr hr⟩, fun _ => ⟨rfl, rfl, hr.2, hr.1⟩, fun h0 => absurd (by rw [hp, hr.2]; rfl) h0⟩
        · rename_i hp
          cases h
          refine ⟨⟨hd, rfl, .inr hr⟩, fun h0 => absurd (List.append_eq_nil_iff.1 h0).1 hp, fun _ => ⟨?_, ?_⟩⟩
          · rw [hr.2, List.append_nil]; simp [firstLine, hi]
          · rw [hr.2]; simp [behind, hi]
      · split at h
        · rename_i hl
          exfalso
          have hne : x.pend ++ x.rest ≠ [] := fun h0 => by rw [(List.append_eq_nil_iff.1 h0).1] at hl; simp at hl; omega
          have := hfit hne
          unfold fits at this
          rw [nlAt_append_none hi] at this
          cases hb : nlAt x.rest with
          | none => rw [hb] at this; simp at this; omega
          | some j => rw [hb] at this; simp at this; omega
        · cases h
  | succ k ih =>
    rintro x o x' ⟨x1, x2, hpre, hrd, h⟩ ⟨hd, hm, he⟩ hfit hlim
    rw [pre_lines] at hpre
    split at hpre
    · cases hpre
    · split at hpre
      · split at hpre <;> cases hpre
      · rename_i hx
        split at hpre
        · cases hpre
        · cases hpre
          have hxe : x.err = none := by cases hxe : x.err with | none => rfl | some c => rw [hxe] at hx; simp at hx
          have key : Fine endE x2 ∧ x2.pend ++ x2.rest = x.pend ++ x.rest := by
            rcases hrd with ⟨hr, rfl⟩ | ⟨n, _, hn, _, rfl⟩
            · exact ⟨⟨hd, hm, .inr ⟨rfl, hr⟩⟩, rfl⟩
            · split
              · rename_i hb
                simp only [Bool.and_eq_true, beq_iff_eq] at hb
                exact ⟨⟨hd, hm, .inr ⟨rfl, by simp [hb.2]⟩⟩, by simp⟩
              · exact ⟨⟨hd, rfl, .inl hxe⟩, by simp⟩
          have := ih x2 o x' h key.1 (by rw [key.2]; exact hfit) hlim
          rw [key.2] at this
          exact this
end Go.Proofs.YtkclapimgmnldaaDoor
