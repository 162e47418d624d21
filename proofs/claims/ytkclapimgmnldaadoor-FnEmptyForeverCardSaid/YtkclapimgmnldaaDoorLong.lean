/-
  A line that is too long for its scanner, in plain words.
-/
import Derived.Test.YtkclapimgmnldaaDoorRuns
namespace Go.Proofs.YtkclapimgmnldaaDoor
set_option linter.unusedVariables false
set_option linter.unusedSimpArgs false
set_option maxRecDepth 20000

/-- a state of a scanner of lines, with what the buffer's limit says -/
def FineL (lim : Nat) (tog : Bool) (endE : Nat) (x : Sm Unit) : Prop := Fine endE x ∧ x.pend.length ≤ lim ∧ (x.err.isSome = true → tog = false → x.pend.length < lim)

/-- the bytes ahead of the first newline -/
def firstLen (t : List UInt8) : Nat := match nlAt t with | some i => i | none => t.length
/-- the first line does not fit -/
def Long (lim : Nat) (tog : Bool) (t : List UInt8) : Prop := lim ≤ firstLen t ∧ (tog = true → lim < t.length)

theorem noCR_length_le0 (d : List UInt8) : (noCR d).length ≤ d.length := by
  unfold noCR; split
  · simp
  · exact Nat.le_refl _

theorem rd_fineL {lim : Nat} {tog : Bool} {endE : Nat} {x x2 : Sm Unit} (hx : FineL lim tog endE x) (he : x.err = none) (hl : x.pend.length ≠ lim) (hrd : Sm.Rd lim tog endE x x2) : FineL lim tog endE x2 ∧ x2.pend ++ x2.rest = x.pend ++ x.rest := by
  obtain ⟨⟨hd, hm, _⟩, hle, _⟩ := hx
  rcases hrd with ⟨hr, rfl⟩ | ⟨n, h1, h2, h3, rfl⟩
  · exact ⟨⟨⟨hd, hm, .inr ⟨rfl, hr⟩⟩, hle, fun _ _ => by show x.pend.length < lim; omega⟩, rfl⟩
  · split
    · rename_i hb
      simp only [Bool.and_eq_true, beq_iff_eq] at hb
      refine ⟨⟨⟨hd, hm, .inr ⟨rfl, by simp [hb.2]⟩⟩, ?_, fun _ ht => by rw [hb.1] at ht; cases ht⟩, by simp⟩
      show (x.pend ++ x.rest.take n).length ≤ lim
      simp; omega
    · refine ⟨⟨⟨hd, rfl, .inl he⟩, ?_, fun h => by rw [show ({ x with pend := x.pend ++ x.rest.take n, rest := x.rest.drop n, emp := 0 } : Sm Unit).err = none from he] at h; cases h⟩, by simp⟩
      show (x.pend ++ x.rest.take n).length ≤ lim
      simp; omega

theorem scan_long (lim : Nat) (tog : Bool) (endE : Nat) (hlim : 0 < lim) : ∀ (k : Nat) (x : Sm Unit) (o : Out) (x' : Sm Unit), Sm.LoopN splitLines lim tog endE k x o x' → FineL lim tog endE x → Long lim tog (x.pend ++ x.rest) → o = some none ∧ x'.err = some cTooLong := by
  intro k
  induction k with
  | zero =>
    rintro x o x' h ⟨⟨hd, hm, he⟩, hle, hlt⟩ ⟨hlo, hlo2⟩
    simp only [Sm.LoopN, pre_lines] at h
    split at h
    · rename_i i hi
      exfalso
      have h1 := (nlAt_some hi).2.2
      unfold firstLen at hlo
      rw [nlAt_append_some hi] at hlo
      simp only at hlo
      omega
    · rename_i hi
      split at h
      · rename_i hx
        exfalso
        have hr : x.err = some endE ∧ x.rest = [] := he.resolve_left fun h0 => by rw [h0] at hx; simp at hx
        rw [hr.2, List.append_nil] at hlo hlo2
        unfold firstLen at hlo
        rw [hi] at hlo
        simp only at hlo
        cases tog with
        | false => have := hlt hx rfl; omega
        | true => have := hlo2 rfl; omega
      · rename_i hx
        split at h
        · cases h
          refine ⟨rfl, ?_⟩
          have hxe : x.err = none := by cases hxe : x.err with | none => rfl | some c => rw [hxe] at hx; simp at hx
          simp [Sm.setErr, hxe]
        · cases h
  | succ k ih =>
    rintro x o x' ⟨x1, x2, hpre, hrd, h⟩ hF hL
    rw [pre_lines] at hpre
    split at hpre
    · cases hpre
    · split at hpre
      · split at hpre <;> cases hpre
      · rename_i hx
        split at hpre
        · cases hpre
        · rename_i hl
          cases hpre
          have hxe : x.err = none := by cases hxe : x.err with | none => rfl | some c => rw [hxe] at hx; simp at hx
          obtain ⟨h1, h2⟩ := rd_fineL hF hxe hl hrd
          exact ih x2 o x' h h1 (by rw [h2]; exact hL)

/-- a call of Scan that gives a token keeps what the limit says -/
theorem scan_keeps (lim : Nat) (tog : Bool) (endE : Nat) : ∀ (k : Nat) (x : Sm Unit) (t : List UInt8) (x' : Sm Unit), Sm.LoopN splitLines lim tog endE k x (some (some t)) x' → FineL lim tog endE x → x'.pend.length ≤ lim ∧ (x'.err.isSome = true → tog = false → x'.pend.length < lim) := by
  intro k
  induction k with
  | zero =>
    rintro x t x' h ⟨⟨hd, hm, he⟩, hle, hlt⟩
    simp only [Sm.LoopN, pre_lines] at h
    split at h
    · cases h
      refine ⟨by simp; omega, fun h1 h2 => ?_⟩
      have := hlt h1 h2
      simp; omega
    · split at h
      · split at h
        · cases h
        · cases h
          refine ⟨by simp, fun h1 h2 => ?_⟩
          have := hlt h1 h2
          simp; omega
      · split at h <;> cases h
  | succ k ih =>
    rintro x t x' ⟨x1, x2, hpre, hrd, h⟩ hF
    rw [pre_lines] at hpre
    split at hpre
    · cases hpre
    · split at hpre
      · split at hpre <;> cases hpre
      · rename_i hx
        split at hpre
        · cases hpre
        · rename_i hl
          cases hpre
          have hxe : x.err = none := by cases hxe : x.err with | none => rfl | some c => rw [hxe] at hx; simp at hx
          exact ih x2 t x' h (rd_fineL hF hxe hl hrd).1

/-- k lines that fit, then one that does not -/
def LongAt (lim : Nat) (tog : Bool) : Nat → List UInt8 → Prop
  | 0, t => Long lim tog t
  | k + 1, t => t ≠ [] ∧ (nlAt t).isSome = true ∧ fits lim t ∧ LongAt lim tog k (behind t)

theorem behind_some {t : List UInt8} {i : Nat} (h : nlAt t = some i) : behind t = t.drop (i + 1) := by simp [behind, h]

/-- All runs: the lines ahead of it, then ErrTooLong. -/
theorem long_runs (lim : Nat) (tog : Bool) (endE : Nat) (hlim : 0 < lim) : ∀ (k : Nat) (x : Sm Unit) (ts : List (List UInt8)), FineL lim tog endE x → LongAt lim tog k (x.pend ++ x.rest) →
    Runs splitLines lim tog endE (fun ts' x' => ts' = ts ++ (lines (x.pend ++ x.rest)).take k ∧ x'.err = some cTooLong) k x ts := by
  intro k
  induction k with
  | zero =>
    intro x ts hF hL o x' hs
    rcases hs with ⟨h, _⟩ | ⟨_, j, hs⟩
    · rw [hF.1.1] at h; cases h
    · obtain ⟨h1, h2⟩ := scan_long lim tog endE hlim j x o x' hs hF hL
      exact ⟨h1, by simp, h2⟩
  | succ k ih =>
    intro x ts hF hL o x' hs
    obtain ⟨hne, hnl, hfit, hL'⟩ := hL
    rcases hs with ⟨h, _⟩ | ⟨_, j, hs⟩
    · rw [hF.1.1] at h; cases h
    · obtain ⟨h1, _, h3⟩ := scan_lines lim tog endE j x o x' hs hF.1 (fun _ => hfit) hlim
      obtain ⟨rfl, h5⟩ := h3 hne
      refine .inr ⟨_, rfl, ?_⟩
      have hk := scan_keeps lim tog endE j x _ x' hs hF
      have := ih x' (ts ++ [firstLine (x.pend ++ x.rest)]) ⟨h1, hk⟩ (by rw [h5]; exact hL')
      rw [h5] at this
      obtain ⟨i, hi⟩ := Option.isSome_iff_exists.1 hnl
      have e1 : lines (x.pend ++ x.rest) = firstLine (x.pend ++ x.rest) :: lines (behind (x.pend ++ x.rest)) := by
        rw [lines_some hi, behind_some hi]
        simp [firstLine, hi]
      rw [e1, List.take_succ_cons, ← List.singleton_append, ← List.append_assoc]
      exact this

/-- out of the lines' lengths -/
theorem longAt_of (lim : Nat) (tog : Bool) : ∀ (k : Nat) (t : List UInt8) (h : k < (lines t).length), (∀ l ∈ (lines t).take k, l.length + 2 < lim) → ((lines t)[k].length > lim ∨ (tog = false ∧ (lines t)[k].length ≥ lim)) → LongAt lim tog k t := by
  intro k
  induction k with
  | zero =>
    intro t h _ hk
    have hne : t ≠ [] := fun e => by rw [e, lines_nil] at h; simp at h
    unfold LongAt Long firstLen
    cases hn : nlAt t with
    | some i =>
      have hlt := (nlAt_some hn).2.2
      have e : (lines t)[0] = noCR (t.take i) := by simp [lines_some hn]
      rw [e] at hk
      have h1 : (noCR (t.take i)).length ≤ i := by
        have := noCR_length_le0 (t.take i)
        simp at this
        omega
      refine ⟨by show lim ≤ i; rcases hk with hk | ⟨_, hk⟩ <;> omega, fun ht => ?_⟩
      rcases hk with hk | ⟨h2, _⟩
      · omega
      · rw [h2] at ht; cases ht
    | none =>
      have e : (lines t)[0] = t := by simp [lines_none hn hne]
      rw [e] at hk
      refine ⟨by show lim ≤ t.length; rcases hk with hk | ⟨_, hk⟩ <;> omega, fun ht => ?_⟩
      rcases hk with hk | ⟨h2, _⟩
      · omega
      · rw [h2] at ht; cases ht
  | succ k ih =>
    intro t h hb hk
    have hne : t ≠ [] := fun e => by rw [e, lines_nil] at h; simp at h
    cases hn : nlAt t with
    | none => rw [lines_none hn hne] at h; simp at h
    | some i =>
      have hlt := (nlAt_some hn).2.2
      have e := lines_some hn
      refine ⟨hne, by rw [hn]; rfl, ?_, ?_⟩
      · have := hb (noCR (t.take i)) (by rw [e]; simp)
        have h2 := noCR_len (t.take i)
        simp at h2
        unfold fits
        rw [hn]
        show i < lim
        omega
      · rw [behind_some hn]
        refine ih _ (by rw [e] at h; simpa using h) (fun l hl => hb l (by rw [e]; simp [hl])) ?_
        have e2 : (lines t)[k + 1] = (lines (t.drop (i + 1)))[k]'(by rw [e] at h; simpa using h) := by simp [e]
        rw [e2] at hk
        exact hk
end Go.Proofs.YtkclapimgmnldaaDoor
