/-
  All runs of a scanner of words, in plain words.
-/
import Derived.Test.YtkafojdjadnfaaaDoorWords
import Derived.Test.YtkafojdjadnfaaaDoorLong
namespace Go.Proofs.YtkafojdjadnfaaaDoor
set_option linter.unusedVariables false
set_option linter.unusedSimpArgs false
set_option maxRecDepth 20000

theorem after_some {σ : Type} (lim : Nat) (s : Sm σ) (h : s.err.isSome = true) : Sm.after lim s = .inl (some none, { s with pend := [] }) := by
  unfold Sm.after; rw [if_pos h]
/-- A round on words, case by case. -/
theorem pre_words (lim : Nat) (x : Sm Unit) : Sm.pre splitWords lim x =
    match spAt (trim x.pend) with
    | some p => .inl (some (some ((trim x.pend).take p.1)), { x with pend := (trim x.pend).drop (p.1 + p.2), emp := 0 })
    | none => if x.err.isSome then (if trim x.pend = [] then .inl (some none, { x with pend := [] }) else .inl (some (some (trim x.pend)), { x with pend := [], emp := 0 }))
      else if (trim x.pend).length = lim then .inl (some none, ({ x with pend := trim x.pend }).setErr cTooLong) else .inr { x with pend := trim x.pend } := by
  obtain ⟨pend, rest, err, emp, done, sp⟩ := x
  cases sp
  have htl := trim_len pend
  have hll := lead_le pend
  cases hn : spAt (trim pend) with
  | some p =>
    have hs := spAt_some hn
    have hp : pend ≠ [] := fun h => by rw [h, trim_nil, spAt_nil] at hn; cases hn
    have h1 : ¬ (((lead pend + p.1 + p.2 : Nat) : Int) < 0) := by omega
    have h2 : ¬ ((pend.length : Int) < ((lead pend + p.1 + p.2 : Nat) : Int)) := by omega
    have h3 : (0 : Int) < ((lead pend + p.1 + p.2 : Nat) : Int) := by omega
    simp only [Sm.pre, hp, ne_eq, not_false_eq_true, true_or, if_true, splitWords, hn, Sm.took]
    rw [if_neg (by decide), if_neg (by decide), if_neg h1, if_neg h2, if_pos (.inr h3), Int.toNat_natCast]
    have : pend.drop (lead pend + p.1 + p.2) = (trim pend).drop (p.1 + p.2) := by
      unfold trim; rw [List.drop_drop]; congr 1; omega
    rw [this]
  | none =>
    have h4 : ¬ (((lead pend : Nat) : Int) < 0) := by omega
    have h5 : ¬ ((pend.length : Int) < ((lead pend : Nat) : Int)) := by omega
    cases err with
    | some c =>
      by_cases hp : trim pend = []
      · simp only [Sm.pre, Option.isSome_some, or_true, if_true, splitWords, hn, hp, spAt_nil, Sm.took, List.isEmpty_nil, Bool.not_true, Bool.and_false, Bool.false_eq_true, if_false]
        rw [if_neg (by decide), if_neg (by decide), if_neg h4, if_neg h5, after_some _ _ rfl]
      · have he : (trim pend).isEmpty = false := by cases h : trim pend with | nil => exact absurd h hp | cons _ _ => rfl
        have hpos := List.length_pos_iff.2 hp
        have h6 : ¬ ((pend.length : Int) < 0) := by omega
        have h7 : ¬ ((pend.length : Int) < (pend.length : Int)) := by omega
        have h8 : (0 : Int) < (pend.length : Int) := by omega
        simp only [Sm.pre, Option.isSome_some, or_true, if_true, splitWords, hn, Sm.took, he, Bool.not_false, Bool.and_self]
        rw [if_neg (by decide), if_neg (by decide), if_neg h6, if_neg h7, if_pos (.inr h8), if_neg hp, Int.toNat_natCast, List.drop_length]
    | none =>
      by_cases hp : pend = []
      · subst hp
        simp [Sm.pre, Sm.after, trim_nil]
      · simp only [Sm.pre, hp, ne_eq, not_false_eq_true, true_or, if_true, splitWords, hn, Sm.took, Option.isSome_none, Bool.false_and, Bool.false_eq_true, if_false]
        rw [if_neg (by decide), if_neg (by decide), if_neg h4, if_neg h5, Int.toNat_natCast]
        unfold Sm.after
        rfl

theorem some_trim {a b : List UInt8} {p : Nat × Nat} (h : spAt (trim a) = some p) : trim (a ++ b) = trim a ++ b ∧ spAt (trim (a ++ b)) = some p := by
  have hne : trim a ≠ [] := fun e => by rw [e, spAt_nil] at h; cases h
  have hs := head_cut b hne ((trim_head a).resolve_left hne) (.inl (by rw [h]; rfl))
  have e : trim (a ++ b) = trim a ++ b := by rw [← trim_cut, trim_word hs]
  exact ⟨e, by rw [e]; exact spAt_cut b h⟩
theorem firstWord_some {a b : List UInt8} {p : Nat × Nat} (h : spAt (trim a) = some p) : firstWord (a ++ b) = (trim a).take p.1 := by
  obtain ⟨e, h1⟩ := some_trim (b := b) h
  have h2 := (spAt_some h).1
  unfold firstWord
  rw [h1]
  show (trim (a ++ b)).take p.1 = _
  rw [e, List.take_append_of_le_length (by omega)]
theorem behindW_some {a b : List UInt8} {p : Nat × Nat} (h : spAt (trim a) = some p) : behindW (a ++ b) = (trim a).drop (p.1 + p.2) ++ b := by
  obtain ⟨e, h1⟩ := some_trim (b := b) h
  have h2 := (spAt_some h).1
  unfold behindW
  rw [h1]
  show (trim (a ++ b)).drop (p.1 + p.2) = _
  rw [e, List.drop_append_of_le_length (by omega)]
/-- a full buffer without a word's end: the first word has no room -/
theorem full_not {lim : Nat} {a b : List UInt8} (h : spAt (trim a) = none) (hl : (trim a).length = lim) (hlim : 4 ≤ lim) : ¬ fitsW lim (a ++ b) := by
  have hne : trim a ≠ [] := fun e => by rw [e] at hl; simp at hl; omega
  have hs := head_cut b hne ((trim_head a).resolve_left hne) (.inr (by omega))
  have e : trim (a ++ b) = trim a ++ b := by rw [← trim_cut, trim_word hs]
  rintro ⟨_, hf⟩
  rw [e] at hf
  cases hp : spAt (trim a ++ b) with
  | some p =>
    rw [hp] at hf
    have h1 := spAt_none_cut b h hp
    simp only at hf
    omega
  | none =>
    rw [hp] at hf
    simp at hf
    omega

theorem rd_fine {lim : Nat} {tog : Bool} {endE : Nat} {x x2 : Sm Unit} (hx : Fine endE x) (he : x.err = none) (hrd : Sm.Rd lim tog endE x x2) : Fine endE x2 ∧ x2.pend ++ x2.rest = x.pend ++ x.rest := by
  obtain ⟨hd, hm, _⟩ := hx
  rcases hrd with ⟨hr, rfl⟩ | ⟨n, _, hn, _, rfl⟩
  · exact ⟨⟨hd, hm, .inr ⟨rfl, hr⟩⟩, rfl⟩
  · split
    · rename_i hb
      simp only [Bool.and_eq_true, beq_iff_eq] at hb
      exact ⟨⟨hd, hm, .inr ⟨rfl, by simp [hb.2]⟩⟩, by simp⟩
    · exact ⟨⟨hd, rfl, .inl he⟩, by simp⟩

/-- One call of Scan on words: the next word, or the end. -/
theorem scan_words (lim : Nat) (tog : Bool) (endE : Nat) (hlim : 4 ≤ lim) : ∀ (k : Nat) (x : Sm Unit) (o : Out) (x' : Sm Unit), Sm.LoopN splitWords lim tog endE k x o x' → Fine endE x → (trim (x.pend ++ x.rest) ≠ [] → fitsW lim (x.pend ++ x.rest)) →
    Fine endE x' ∧ (trim (x.pend ++ x.rest) = [] → o = some none ∧ x'.pend = [] ∧ x'.rest = [] ∧ x'.err = some endE) ∧ (trim (x.pend ++ x.rest) ≠ [] → o = some (some (firstWord (x.pend ++ x.rest))) ∧ x'.pend ++ x'.rest = behindW (x.pend ++ x.rest)) := by
  intro k
  induction k with
  | zero =>
    rintro x o x' h ⟨hd, hm, he⟩ hfit
    simp only [Sm.LoopN, pre_words] at h
    split at h
    · rename_i p hp
      cases h
      refine ⟨⟨hd, rfl, he⟩, fun h0 => ?_, fun _ => ⟨by rw [firstWord_some hp], (behindW_some hp).symm⟩⟩
      have := (some_trim (b := x.rest) hp).2
      rw [h0, spAt_nil] at this; cases this
    · rename_i hi
      split at h
      · rename_i hx
        have hr : x.err = some endE ∧ x.rest = [] := he.resolve_left fun h0 => by rw [h0] at hx; simp at hx
        rw [hr.2, List.append_nil]
        split at h
        · rename_i hp
          cases h
          exact ⟨⟨hd, hm, .inr hr⟩, fun _ => ⟨rfl, rfl, hr.2, hr.1⟩, fun h0 => absurd hp h0⟩
        · rename_i hp
          cases h
          refine ⟨⟨hd, rfl, .inr hr⟩, fun h0 => absurd h0 hp, fun _ => ⟨?_, ?_⟩⟩
          · simp [firstWord, hi]
          · show [] ++ x.rest = _
            rw [hr.2]; simp [behindW, hi]
      · split at h
        · rename_i hl
          exfalso
          have hno := full_not (b := x.rest) hi hl hlim
          refine hno (hfit fun h0 => ?_)
          have hne : trim x.pend ≠ [] := fun e => by rw [e] at hl; simp at hl; omega
          have hs := head_cut x.rest hne ((trim_head x.pend).resolve_left hne) (.inr (by omega))
          rw [← trim_cut, trim_word hs] at h0
          exact hne (List.append_eq_nil_iff.1 h0).1
        · cases h
  | succ k ih =>
    rintro x o x' ⟨x1, x2, hpre, hrd, h⟩ ⟨hd, hm, he⟩ hfit
    rw [pre_words] at hpre
    split at hpre
    · cases hpre
    · split at hpre
      · split at hpre <;> cases hpre
      · rename_i hx
        split at hpre
        · cases hpre
        · cases hpre
          have hxe : x.err = none := by cases hxe : x.err with | none => rfl | some c => rw [hxe] at hx; simp at hx
          obtain ⟨k1, k2⟩ := rd_fine (x := { x with pend := trim x.pend }) ⟨hd, hm, he⟩ hxe hrd
          have k3 : trim (x2.pend ++ x2.rest) = trim (x.pend ++ x.rest) := by rw [k2]; exact trim_cut _ _
          have := ih x2 o x' h k1 (by rw [k3, fitsW_of k3]; exact hfit)
          rw [k3, firstWord_of k3, behindW_of k3] at this
          exact this

/-- all words have room -/
def RoomyW (lim : Nat) (t : List UInt8) : Prop := 5 ≤ lim ∧ ∀ l ∈ words t, l.length + 4 < lim
theorem fitsW_first {lim : Nat} {t : List UInt8} (hl : 5 ≤ lim) (h : (firstWord t).length + 4 < lim) : fitsW lim t := by
  refine ⟨by omega, ?_⟩
  unfold firstWord at h
  split
  · rename_i p hp
    rw [hp] at h
    have := (spAt_some hp).1
    simp at h
    omega
  · rename_i hp
    rw [hp] at h
    simp only at h
    omega
theorem RoomyW.fits {lim : Nat} {t : List UInt8} (h : RoomyW lim t) (h0 : trim t ≠ []) : fitsW lim t :=
  fitsW_first h.1 (h.2 (firstWord t) (by rw [words_cons h0]; simp))
theorem RoomyW.behind {lim : Nat} {t : List UInt8} (h : RoomyW lim t) (h0 : trim t ≠ []) : RoomyW lim (behindW t) :=
  ⟨h.1, fun l hl => h.2 l (by rw [words_cons h0]; simp [hl])⟩

/-- All runs of a scanner of words. -/
theorem words_runs (lim : Nat) (tog : Bool) (endE : Nat) : ∀ (n : Nat) (x : Sm Unit) (ts : List (List UInt8)), (x.pend ++ x.rest).length ≤ n → Fine endE x → RoomyW lim (x.pend ++ x.rest) →
    Runs splitWords lim tog endE (fun ts' x' => ts' = ts ++ words (x.pend ++ x.rest) ∧ Fine endE x' ∧ x'.pend = [] ∧ x'.rest = [] ∧ x'.err = some endE) n x ts := by
  intro n
  induction n with
  | zero =>
    intro x ts hn hx hr o x' hs
    have h00 : x.pend ++ x.rest = [] := List.length_eq_zero_iff.1 (by omega)
    have h0 : trim (x.pend ++ x.rest) = [] := by rw [h00, trim_nil]
    rcases hs with ⟨h, _⟩ | ⟨_, k, hs⟩
    · rw [hx.1] at h; cases h
    · obtain ⟨h1, h2, _⟩ := scan_words lim tog endE (by have := hr.1; omega) k x o x' hs hx (fun h => absurd h0 h)
      obtain ⟨h3, h4⟩ := h2 h0
      exact ⟨h3, by rw [words_nil h0]; simp, h1, h4⟩
  | succ n ih =>
    intro x ts hn hx hr o x' hs
    rcases hs with ⟨h, _⟩ | ⟨_, k, hs⟩
    · rw [hx.1] at h; cases h
    · obtain ⟨h1, h2, h3⟩ := scan_words lim tog endE (by have := hr.1; omega) k x o x' hs hx (fun h => hr.fits h)
      by_cases h0 : trim (x.pend ++ x.rest) = []
      · obtain ⟨h4, h5⟩ := h2 h0
        exact .inl ⟨h4, by rw [words_nil h0]; simp, h1, h5⟩
      · obtain ⟨h4, h5⟩ := h3 h0
        refine .inr ⟨_, h4, ?_⟩
        have hb := behindW_lt h0
        have := ih x' (ts ++ [firstWord (x.pend ++ x.rest)]) (by rw [h5]; omega) h1 (by rw [h5]; exact hr.behind h0)
        rw [h5, List.append_assoc] at this
        rw [words_cons h0]
        exact this

/-- the first word does not fit -/
def LongW (lim : Nat) (tog : Bool) (t : List UInt8) : Prop := lim ≤ (firstWord t).length ∧ (tog = true → lim < (trim t).length)
theorem firstWord_le (t : List UInt8) : (firstWord t).length ≤ (trim t).length := by
  unfold firstWord
  split
  · simp; omega
  · exact Nat.le_refl _
theorem fineL_trim {lim : Nat} {tog : Bool} {endE : Nat} {x : Sm Unit} (h : FineL lim tog endE x) : FineL lim tog endE { x with pend := trim x.pend } := by
  obtain ⟨⟨hd, hm, he⟩, hle, hlt⟩ := h
  have := trim_len x.pend
  exact ⟨⟨hd, hm, he⟩, by show (trim x.pend).length ≤ lim; omega, fun h1 h2 => by have := hlt h1 h2; show (trim x.pend).length < lim; omega⟩

theorem scan_longW (lim : Nat) (tog : Bool) (endE : Nat) (hlim : 0 < lim) : ∀ (k : Nat) (x : Sm Unit) (o : Out) (x' : Sm Unit), Sm.LoopN splitWords lim tog endE k x o x' → FineL lim tog endE x → LongW lim tog (x.pend ++ x.rest) → o = some none ∧ x'.err = some cTooLong := by
  intro k
  induction k with
  | zero =>
    rintro x o x' h ⟨⟨hd, hm, he⟩, hle, hlt⟩ ⟨hlo, hlo2⟩
    have htl := trim_len x.pend
    simp only [Sm.LoopN, pre_words] at h
    split at h
    · rename_i p hp
      exfalso
      have h1 := spAt_some hp
      rw [firstWord_some hp] at hlo
      simp at hlo
      omega
    · rename_i hi
      split at h
      · rename_i hx
        exfalso
        have hr : x.err = some endE ∧ x.rest = [] := he.resolve_left fun h0 => by rw [h0] at hx; simp at hx
        rw [hr.2, List.append_nil] at hlo hlo2
        have h2 := firstWord_le x.pend
        cases tog with
        | false => have := hlt hx rfl; omega
        | true => have := hlo2 rfl; omega
      · rename_i hx
        split at h
        · cases h
          refine ⟨rfl, ?_⟩
          have hxe : x.err = none := by cases hxe : x.err with | none => rfl | some c => rw [hxe] at hx; simp at hx
          simp [Sm.setErr, hxe]
        · cases h
  | succ k ih =>
    rintro x o x' ⟨x1, x2, hpre, hrd, h⟩ hF hL
    rw [pre_words] at hpre
    split at hpre
    · cases hpre
    · split at hpre
      · split at hpre <;> cases hpre
      · rename_i hx
        split at hpre
        · cases hpre
        · rename_i hl
          cases hpre
          have hxe : x.err = none := by cases hxe : x.err with | none => rfl | some c => rw [hxe] at hx; simp at hx
          obtain ⟨h1, h2⟩ := rd_fineL (x := { x with pend := trim x.pend }) (fineL_trim hF) hxe hl hrd
          have k3 : trim (x2.pend ++ x2.rest) = trim (x.pend ++ x.rest) := by rw [h2]; exact trim_cut _ _
          exact ih x2 o x' h h1 (by unfold LongW; rw [firstWord_of k3, k3]; exact hL)

theorem scan_keepsW (lim : Nat) (tog : Bool) (endE : Nat) : ∀ (k : Nat) (x : Sm Unit) (t : List UInt8) (x' : Sm Unit), Sm.LoopN splitWords lim tog endE k x (some (some t)) x' → FineL lim tog endE x → x'.pend.length ≤ lim ∧ (x'.err.isSome = true → tog = false → x'.pend.length < lim) := by
  intro k
  induction k with
  | zero =>
    rintro x t x' h ⟨⟨hd, hm, he⟩, hle, hlt⟩
    have htl := trim_len x.pend
    simp only [Sm.LoopN, pre_words] at h
    split at h
    · cases h
      refine ⟨by simp; omega, fun h1 h2 => ?_⟩
      have := hlt h1 h2
      simp; omega
    · split at h
      · split at h
        · cases h
        · cases h
          refine ⟨by simp, fun h1 h2 => ?_⟩
          have := hlt h1 h2
          simp; omega
      · split at h <;> cases h
  | succ k ih =>
    rintro x t x' ⟨x1, x2, hpre, hrd, h⟩ hF
    rw [pre_words] at hpre
    split at hpre
    · cases hpre
    · split at hpre
      · split at hpre <;> cases hpre
      · rename_i hx
        split at hpre
        · cases hpre
        · rename_i hl
          cases hpre
          have hxe : x.err = none := by cases hxe : x.err with | none => rfl | some c => rw [hxe] at hx; simp at hx
          exact ih x2 t x' h (rd_fineL (x := { x with pend := trim x.pend }) (fineL_trim hF) hxe hl hrd).1

/-- k words that fit, then one that does not -/
def LongAtW (lim : Nat) (tog : Bool) : Nat → List UInt8 → Prop
  | 0, t => LongW lim tog t
  | k + 1, t => trim t ≠ [] ∧ fitsW lim t ∧ LongAtW lim tog k (behindW t)

/-- All runs: the words ahead of it, then ErrTooLong. -/
theorem longW_runs (lim : Nat) (tog : Bool) (endE : Nat) (hlim : 4 ≤ lim) : ∀ (k : Nat) (x : Sm Unit) (ts : List (List UInt8)), FineL lim tog endE x → LongAtW lim tog k (x.pend ++ x.rest) →
    Runs splitWords lim tog endE (fun ts' x' => ts' = ts ++ (words (x.pend ++ x.rest)).take k ∧ x'.err = some cTooLong) k x ts := by
  intro k
  induction k with
  | zero =>
    intro x ts hF hL o x' hs
    rcases hs with ⟨h, _⟩ | ⟨_, j, hs⟩
    · rw [hF.1.1] at h; cases h
    · obtain ⟨h1, h2⟩ := scan_longW lim tog endE (by omega) j x o x' hs hF hL
      exact ⟨h1, by simp, h2⟩
  | succ k ih =>
    intro x ts hF hL o x' hs
    obtain ⟨hne, hfit, hL'⟩ := hL
    rcases hs with ⟨h, _⟩ | ⟨_, j, hs⟩
    · rw [hF.1.1] at h; cases h
    · obtain ⟨h1, _, h3⟩ := scan_words lim tog endE hlim j x o x' hs hF.1 (fun _ => hfit)
      obtain ⟨rfl, h5⟩ := h3 hne
      refine .inr ⟨_, rfl, ?_⟩
      have hk := scan_keepsW lim tog endE j x _ x' hs hF
      have := ih x' (ts ++ [firstWord (x.pend ++ x.rest)]) ⟨h1, hk⟩ (by rw [h5]; exact hL')
      rw [h5] at this
      rw [words_cons hne, List.take_succ_cons, ← List.singleton_append, ← List.append_assoc]
      exact this

/-- out of the words' lengths -/
theorem longAtW_of (lim : Nat) (tog : Bool) (hl5 : 5 ≤ lim) : ∀ (k : Nat) (t : List UInt8) (h : k < (words t).length), (∀ l ∈ (words t).take k, l.length + 4 < lim) → ((words t)[k].length > lim ∨ (tog = false ∧ (words t)[k].length ≥ lim)) → LongAtW lim tog k t := by
  intro k
  induction k with
  | zero =>
    intro t h _ hk
    have hne : trim t ≠ [] := fun e => by rw [words_nil e] at h; simp at h
    have e : (words t)[0] = firstWord t := by simp [words_cons hne]
    rw [e] at hk
    have h1 := firstWord_le t
    refine ⟨by rcases hk with hk | ⟨_, hk⟩ <;> omega, fun ht => ?_⟩
    rcases hk with hk | ⟨h2, _⟩
    · omega
    · rw [h2] at ht; cases ht
  | succ k ih =>
    intro t h hb hk
    have hne : trim t ≠ [] := fun e => by rw [words_nil e] at h; simp at h
    have e := words_cons hne
    refine ⟨hne, ?_, ?_⟩
    · exact fitsW_first hl5 (hb _ (by rw [e]; simp))
    · refine ih _ (by rw [e] at h; simpa using h) (fun l hl => hb l (by rw [e]; simp [hl])) ?_
      have e2 : (words t)[k + 1] = (words (behindW t))[k]'(by rw [e] at h; simpa using h) := by simp [e]
      rw [e2] at hk
      exact hk
end Go.Proofs.YtkafojdjadnfaaaDoor
