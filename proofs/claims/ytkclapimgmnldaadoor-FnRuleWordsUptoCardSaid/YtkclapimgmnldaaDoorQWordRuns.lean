/-
  Words, in plain words, and all runs of a scanner of words: no program in sight.
-/
import Derived.Test.YtkclapimgmnldaaDoorQA
import Derived.Lib.DecodeN
import Derived.Test.YtkclapimgmnldaaDoorQT
namespace Go.Proofs.YtkclapimgmnldaaDoor
set_option linter.unusedVariables false
set_option linter.unusedSimpArgs false
set_option maxRecDepth 20000
open Go.Lib (decodeN)

/-- the byte at a place, 0 behind the end -/
def byt (d : List UInt8) (i : Nat) : Nat := (d[i]?.getD 0).toNat
/-- the rune at the head, and its width -/
def dec (d : List UInt8) : Nat × Nat := decodeN d.length (byt d 0) (byt d 1) (byt d 2) (byt d 3)
/-- a rune is a space -/
def spaceN (r : Nat) : Bool := decide ((9 ≤ r ∧ r ≤ 13) ∨ r = 32 ∨ r = 133 ∨ r = 160 ∨ r = 5760 ∨ (8192 ≤ r ∧ r ≤ 8202) ∨ r = 8232 ∨ r = 8233 ∨ r = 8239 ∨ r = 8287 ∨ r = 12288)
theorem spaceN_bad : spaceN 65533 = false := by decide

set_option maxRecDepth 100000 in
theorem decodeN_pos (n b0 b1 b2 b3 : Nat) : 1 ≤ (decodeN n b0 b1 b2 b3).2 ∧ (decodeN n b0 b1 b2 b3).2 ≤ 4 := by
  unfold decodeN
  repeat' split
  all_goals simp
set_option maxRecDepth 100000 in
theorem decodeN_le (n b0 b1 b2 b3 : Nat) (h : 1 ≤ n) : (decodeN n b0 b1 b2 b3).2 ≤ n := by
  unfold decodeN
  repeat' split
  all_goals first | (simp; omega) | simp_all
set_option maxRecDepth 100000 in
theorem decodeN_low (n b0 b1 b2 b3 : Nat) (h : b0 < 128) : decodeN n b0 b1 b2 b3 = (b0, 1) := by
  unfold decodeN
  rw [if_pos h]
set_option maxRecDepth 100000 in
theorem decodeN_cont (n b0 b1 b2 b3 : Nat) (h : b0 / 64 = 2) : decodeN n b0 b1 b2 b3 = (65533, 1) := by
  unfold decodeN
  repeat' split
  all_goals first | rfl | (exfalso; omega)
set_option maxRecDepth 100000 in
set_option maxHeartbeats 4000000 in
theorem decodeN_tail (n b0 b1 b2 b3 : Nat) : (1 < (decodeN n b0 b1 b2 b3).2 → b1 / 64 = 2) ∧ (2 < (decodeN n b0 b1 b2 b3).2 → b2 / 64 = 2) ∧ (3 < (decodeN n b0 b1 b2 b3).2 → b3 / 64 = 2) := by
  unfold decodeN
  repeat' split
  all_goals (simp only; omega)
set_option maxRecDepth 100000 in
set_option maxHeartbeats 4000000 in
theorem decodeN_cut (n m b0 b1 b2 b3 c1 c2 c3 : Nat) (hn : 1 ≤ n) (hm : n ≤ m) (h1 : 1 < n → c1 = b1) (h2 : 2 < n → c2 = b2) (h3 : 3 < n → c3 = b3) :
    decodeN m b0 b1 b2 b3 = decodeN n b0 c1 c2 c3 ∨ (decodeN n b0 c1 c2 c3 = (65533, 1) ∧ n < (decodeN m b0 b1 b2 b3).2) := by
  by_cases h4 : 4 ≤ n
  · left
    rw [h1 (by omega), h2 (by omega), h3 (by omega)]
    have e1 : (1 < m) = (1 < n) := propext ⟨fun _ => by omega, fun _ => by omega⟩
    have e2 : (2 < m) = (2 < n) := propext ⟨fun _ => by omega, fun _ => by omega⟩
    have e3 : (3 < m) = (3 < n) := propext ⟨fun _ => by omega, fun _ => by omega⟩
    unfold decodeN
    simp only [e1, e2, e3]
  · obtain rfl | rfl | rfl : n = 1 ∨ n = 2 ∨ n = 3 := by omega
    · unfold decodeN
      repeat' split
      all_goals first | (left; rfl) | (right; refine ⟨rfl, ?_⟩; simp only; omega) | (exfalso; omega)
    · obtain rfl := h1 (by omega)
      unfold decodeN
      repeat' split
      all_goals first | (left; rfl) | (right; refine ⟨rfl, ?_⟩; simp only; omega) | (exfalso; omega)
    · obtain rfl := h1 (by omega)
      obtain rfl := h2 (by omega)
      unfold decodeN
      repeat' split
      all_goals first | (left; rfl) | (right; refine ⟨rfl, ?_⟩; simp only; omega) | (exfalso; omega)

theorem dec_pos (d : List UInt8) : 1 ≤ (dec d).2 := (decodeN_pos _ _ _ _ _).1
theorem dec_four (d : List UInt8) : (dec d).2 ≤ 4 := (decodeN_pos _ _ _ _ _).2
theorem dec_le {d : List UInt8} (h : d ≠ []) : (dec d).2 ≤ d.length := decodeN_le _ _ _ _ _ (List.length_pos_iff.2 h)
theorem byt_app {a b : List UInt8} {i : Nat} (h : i < a.length) : byt (a ++ b) i = byt a i := by
  unfold byt; rw [List.getElem?_append_left h]
theorem byt_drop (d : List UInt8) (n i : Nat) : byt (d.drop n) i = byt d (n + i) := by
  unfold byt; rw [List.getElem?_drop]
theorem dec_cut {a : List UInt8} (b : List UInt8) (h : a ≠ []) : dec (a ++ b) = dec a ∨ (dec a = (65533, 1) ∧ a.length < (dec (a ++ b)).2) := by
  have hl := List.length_pos_iff.2 h
  have := decodeN_cut a.length (a ++ b).length (byt (a ++ b) 0) (byt (a ++ b) 1) (byt (a ++ b) 2) (byt (a ++ b) 3) (byt a 1) (byt a 2) (byt a 3) hl (by simp) (fun h => (byt_app h).symm) (fun h => (byt_app h).symm) (fun h => (byt_app h).symm)
  rw [byt_app hl] at this
  unfold dec
  rw [byt_app hl]
  exact this
theorem dec_tail {d : List UInt8} {j : Nat} (h : j < (dec d).2) (h1 : 1 ≤ j) : byt d j / 64 = 2 := by
  have h4 := dec_four d
  obtain ⟨t1, t2, t3⟩ := decodeN_tail d.length (byt d 0) (byt d 1) (byt d 2) (byt d 3)
  obtain rfl | rfl | rfl : j = 1 ∨ j = 2 ∨ j = 3 := by omega
  · exact t1 h
  · exact t2 h
  · exact t3 h
theorem dec_cont {d : List UInt8} (h : byt d 0 / 64 = 2) : dec d = (65533, 1) := decodeN_cont _ _ _ _ _ h

theorem drop_lt {d : List UInt8} (h : d ≠ []) : (d.drop (dec d).2).length < d.length := by
  have h1 := dec_pos d
  have h2 := List.length_pos_iff.2 h
  simp; omega

/-- the bytes of the spaces at the head -/
def lead (d : List UInt8) : Nat := if h : d = [] then 0 else if spaceN (dec d).1 then (dec d).2 + lead (d.drop (dec d).2) else 0
termination_by d.length
decreasing_by exact drop_lt h
/-- where the first space stands, and its width -/
def spAt (d : List UInt8) : Option (Nat × Nat) := if h : d = [] then none else if spaceN (dec d).1 then some (0, (dec d).2) else (spAt (d.drop (dec d).2)).map fun p => (p.1 + (dec d).2, p.2)
termination_by d.length
decreasing_by exact drop_lt h
/-- the words of a text, as the reference makes them; cur is what stands behind the last space -/
def wordsFrom (cur d : List UInt8) : List (List UInt8) := if h : d = [] then (if cur = [] then [] else [cur]) else if spaceN (dec d).1 then (if cur = [] then [] else [cur]) ++ wordsFrom [] (d.drop (dec d).2) else wordsFrom (cur ++ d.take (dec d).2) (d.drop (dec d).2)
termination_by d.length
decreasing_by
  · exact drop_lt h
  · exact drop_lt h
def words (t : List UInt8) : List (List UInt8) := wordsFrom [] t
/-- without the spaces at the head -/
def trim (d : List UInt8) : List UInt8 := d.drop (lead d)

theorem lead_nil : lead [] = 0 := by rw [lead]; simp
theorem lead_space {d : List UInt8} (h : d ≠ []) (hs : spaceN (dec d).1 = true) : lead d = (dec d).2 + lead (d.drop (dec d).2) := by
  rw [lead, dif_neg h, if_pos hs]
theorem lead_word {d : List UInt8} (hs : spaceN (dec d).1 = false) : lead d = 0 := by
  rw [lead]; split
  · rfl
  · rw [if_neg (by simp [hs])]
theorem spAt_nil : spAt [] = none := by rw [spAt]; simp
theorem spAt_space {d : List UInt8} (h : d ≠ []) (hs : spaceN (dec d).1 = true) : spAt d = some (0, (dec d).2) := by
  rw [spAt, dif_neg h, if_pos hs]
theorem spAt_word {d : List UInt8} (h : d ≠ []) (hs : spaceN (dec d).1 = false) : spAt d = (spAt (d.drop (dec d).2)).map fun p => (p.1 + (dec d).2, p.2) := by
  rw [spAt, dif_neg h, if_neg (by simp [hs])]
theorem wordsFrom_nil (cur : List UInt8) : wordsFrom cur [] = if cur = [] then [] else [cur] := by rw [wordsFrom]; simp
theorem wordsFrom_space (cur : List UInt8) {d : List UInt8} (h : d ≠ []) (hs : spaceN (dec d).1 = true) : wordsFrom cur d = (if cur = [] then [] else [cur]) ++ wordsFrom [] (d.drop (dec d).2) := by
  rw [wordsFrom, dif_neg h, if_pos hs]
theorem wordsFrom_word (cur : List UInt8) {d : List UInt8} (h : d ≠ []) (hs : spaceN (dec d).1 = false) : wordsFrom cur d = wordsFrom (cur ++ d.take (dec d).2) (d.drop (dec d).2) := by
  rw [wordsFrom, dif_neg h, if_neg (by simp [hs])]

/-- induction along the runes -/
theorem byRune {Q : List UInt8 → Prop} (h0 : Q []) (h1 : ∀ d, d ≠ [] → Q (d.drop (dec d).2) → Q d) : ∀ d, Q d := by
  have : ∀ n (d : List UInt8), d.length ≤ n → Q d := by
    intro n
    induction n with
    | zero =>
      intro d h
      obtain rfl : d = [] := List.length_eq_zero_iff.1 (by omega)
      exact h0
    | succ n ih =>
      intro d h
      by_cases hd : d = []
      · subst hd; exact h0
      · exact h1 d hd (ih _ (by have := drop_lt hd; omega))
  exact fun d => this d.length d (Nat.le_refl _)

theorem lead_le (d : List UInt8) : lead d ≤ d.length := by
  induction d using byRune with
  | h0 => rw [lead_nil]; simp
  | h1 d hd ih =>
    cases hs : spaceN (dec d).1 with
    | true =>
      rw [lead_space hd hs]
      have h1 := dec_le hd
      have h2 := drop_lt hd
      simp at ih h2
      omega
    | false => rw [lead_word hs]; omega
theorem trim_nil : trim [] = [] := by simp [trim]
theorem trim_space {d : List UInt8} (h : d ≠ []) (hs : spaceN (dec d).1 = true) : trim d = trim (d.drop (dec d).2) := by
  unfold trim; rw [lead_space h hs, List.drop_drop]
theorem trim_word {d : List UInt8} (hs : spaceN (dec d).1 = false) : trim d = d := by
  unfold trim; rw [lead_word hs]; rfl
theorem trim_len (d : List UInt8) : (trim d).length = d.length - lead d := by simp [trim]
theorem trim_head (d : List UInt8) : trim d = [] ∨ spaceN (dec (trim d)).1 = false := by
  induction d using byRune with
  | h0 => exact .inl trim_nil
  | h1 d hd ih =>
    cases hs : spaceN (dec d).1 with
    | true => rw [trim_space hd hs]; exact ih
    | false => rw [trim_word hs]; exact .inr hs
theorem trim_trim (d : List UInt8) : trim (trim d) = trim d := by
  rcases trim_head d with h | h
  · rw [h, trim_nil]
  · exact trim_word h

theorem spAt_some {d : List UInt8} : ∀ {p : Nat × Nat}, spAt d = some p → p.1 + p.2 ≤ d.length ∧ 1 ≤ p.2 ∧ (spaceN (dec d).1 = false → 1 ≤ p.1) := by
  induction d using byRune with
  | h0 => intro p h; rw [spAt_nil] at h; cases h
  | h1 d hd ih =>
    intro p h
    have hp := dec_pos d
    have hle := dec_le hd
    cases hs : spaceN (dec d).1 with
    | true =>
      rw [spAt_space hd hs] at h
      cases h
      exact ⟨by simpa using hle, hp, fun h => by cases h⟩
    | false =>
      rw [spAt_word hd hs] at h
      obtain ⟨q, hq, rfl⟩ := Option.map_eq_some_iff.1 h
      obtain ⟨h1, h2, _⟩ := ih hq
      simp at h1
      exact ⟨by simp; omega, h2, fun _ => by simp; omega⟩
theorem spAt_cont {d : List UInt8} (h : ∀ j, j < d.length → byt d j / 64 = 2) : spAt d = none := by
  induction d using byRune with
  | h0 => exact spAt_nil
  | h1 d hd ih =>
    have h0 := dec_cont (h 0 (List.length_pos_iff.2 hd))
    rw [spAt_word hd (by rw [h0]; exact spaceN_bad)]
    rw [ih ?_]; rfl
    intro j hj
    rw [byt_drop]
    rw [List.length_drop] at hj
    exact h _ (by omega)
/-- a rune that is cut makes no space -/
theorem cut_none {a : List UInt8} (b : List UInt8) (h : a ≠ []) (h1 : dec a = (65533, 1)) (h2 : a.length < (dec (a ++ b)).2) : spAt a = none ∧ spaceN (dec a).1 = false := by
  have hs : spaceN (dec a).1 = false := by rw [h1]; exact spaceN_bad
  refine ⟨?_, hs⟩
  rw [spAt_word h hs, spAt_cont]; rfl
  intro j hj
  rw [byt_drop]
  rw [List.length_drop] at hj
  have hp := dec_pos a
  rw [← byt_app (b := b) (by omega)]
  exact dec_tail (by omega) (by omega)
theorem spAt_cut {a : List UInt8} (b : List UInt8) : ∀ {p : Nat × Nat}, spAt a = some p → spAt (a ++ b) = some p := by
  induction a using byRune with
  | h0 => intro p h; rw [spAt_nil] at h; cases h
  | h1 a ha ih =>
    intro p h
    have hne : a ++ b ≠ [] := by simp [ha]
    rcases dec_cut b ha with e | ⟨e1, e2⟩
    · cases hs : spaceN (dec a).1 with
      | true =>
        rw [spAt_space ha hs] at h
        rw [spAt_space hne (by rw [e]; exact hs), e]
        exact h
      | false =>
        rw [spAt_word ha hs] at h
        obtain ⟨q, hq, rfl⟩ := Option.map_eq_some_iff.1 h
        rw [spAt_word hne (by rw [e]; exact hs), e, List.drop_append_of_le_length (dec_le ha), ih hq]
        rfl
    · rw [(cut_none b ha e1 e2).1] at h; cases h
/-- what begins with a word and has its space keeps its head -/
theorem head_cut {a : List UInt8} (b : List UInt8) (ha : a ≠ []) (hs : spaceN (dec a).1 = false) (h : (spAt a).isSome = true ∨ 4 ≤ a.length) : spaceN (dec (a ++ b)).1 = false := by
  rcases dec_cut b ha with e | ⟨e1, e2⟩
  · rw [e]; exact hs
  · exfalso
    rcases h with h | h
    · rw [(cut_none b ha e1 e2).1] at h; cases h
    · have := dec_four (a ++ b); omega
theorem spAt_none_cut {a : List UInt8} (b : List UInt8) : ∀ {p : Nat × Nat}, spAt a = none → spAt (a ++ b) = some p → a.length ≤ p.1 + 3 := by
  induction a using byRune with
  | h0 => intro p _ _; simp
  | h1 a ha ih =>
    intro p h h'
    have hne : a ++ b ≠ [] := by simp [ha]
    rcases dec_cut b ha with e | ⟨e1, e2⟩
    · cases hs : spaceN (dec a).1 with
      | true => rw [spAt_space ha hs] at h; cases h
      | false =>
        rw [spAt_word ha hs] at h
        rw [spAt_word hne (by rw [e]; exact hs), e, List.drop_append_of_le_length (dec_le ha)] at h'
        obtain ⟨q, hq, rfl⟩ := Option.map_eq_some_iff.1 h'
        have := ih (by simpa using h) hq
        simp at this
        simp; omega
    · have := dec_four (a ++ b); omega
/-- dropping spaces of a beginning leaves what is trimmed -/
theorem trim_cut (b a : List UInt8) : trim (trim a ++ b) = trim (a ++ b) := by
  induction a using byRune with
  | h0 => rw [trim_nil]
  | h1 a ha ih =>
    cases hs : spaceN (dec a).1 with
    | false => rw [trim_word hs]
    | true =>
      have e : dec (a ++ b) = dec a := by
        rcases dec_cut b ha with e | ⟨e1, _⟩
        · exact e
        · rw [e1, spaceN_bad] at hs; cases hs
      rw [trim_space ha hs, ih, trim_space (d := a ++ b) (by simp [ha]) (by rw [e]; exact hs), e, List.drop_append_of_le_length (dec_le ha)]

/-- the first word, and what stands behind it -/
def firstWord (t : List UInt8) : List UInt8 := match spAt (trim t) with | some p => (trim t).take p.1 | none => trim t
def behindW (t : List UInt8) : List UInt8 := match spAt (trim t) with | some p => (trim t).drop (p.1 + p.2) | none => []
/-- the first word has room -/
def fitsW (lim : Nat) (t : List UInt8) : Prop := 4 ≤ lim ∧ match spAt (trim t) with | some p => p.1 + 3 < lim | none => (trim t).length < lim
/-- what ScanWords answers -/
def splitWords (_ : Unit) (d : List UInt8) (eof : Bool) : Ans Unit :=
  match spAt (trim d) with
  | some p => ⟨(), ((lead d + p.1 + p.2 : Nat) : Int), some ((trim d).take p.1), 0⟩
  | none => if eof && !(trim d).isEmpty then ⟨(), (d.length : Int), some (trim d), 0⟩ else ⟨(), (lead d : Int), none, 0⟩

theorem firstWord_of {t t' : List UInt8} (h : trim t' = trim t) : firstWord t' = firstWord t := by unfold firstWord; rw [h]
theorem behindW_of {t t' : List UInt8} (h : trim t' = trim t) : behindW t' = behindW t := by unfold behindW; rw [h]
theorem fitsW_of {lim : Nat} {t t' : List UInt8} (h : trim t' = trim t) : fitsW lim t' = fitsW lim t := by unfold fitsW; rw [h]

theorem wordsFrom_some {d : List UInt8} : ∀ (cur : List UInt8) (p : Nat × Nat), spAt d = some p → wordsFrom cur d = (if cur ++ d.take p.1 = [] then [] else [cur ++ d.take p.1]) ++ words (d.drop (p.1 + p.2)) := by
  induction d using byRune with
  | h0 => intro cur p h; rw [spAt_nil] at h; cases h
  | h1 d hd ih =>
    intro cur p h
    cases hs : spaceN (dec d).1 with
    | true =>
      rw [spAt_space hd hs] at h
      cases h
      rw [wordsFrom_space cur hd hs]
      simp [words]
    | false =>
      rw [spAt_word hd hs] at h
      obtain ⟨q, hq, rfl⟩ := Option.map_eq_some_iff.1 h
      have hle := dec_le hd
      rw [wordsFrom_word cur hd hs, ih _ q hq]
      have e1 : d.take (q.1 + (dec d).2) = d.take (dec d).2 ++ (d.drop (dec d).2).take q.1 := by
        rw [Nat.add_comm, List.take_add]
      have e2 : (d.drop (dec d).2).drop (q.1 + q.2) = d.drop (q.1 + (dec d).2 + q.2) := by
        rw [List.drop_drop]; congr 1; omega
      rw [e1, e2, List.append_assoc]
theorem wordsFrom_none {d : List UInt8} : ∀ (cur : List UInt8), spAt d = none → wordsFrom cur d = if cur ++ d = [] then [] else [cur ++ d] := by
  induction d using byRune with
  | h0 => intro cur _; rw [wordsFrom_nil]; simp
  | h1 d hd ih =>
    intro cur h
    cases hs : spaceN (dec d).1 with
    | true => rw [spAt_space hd hs] at h; cases h
    | false =>
      rw [spAt_word hd hs] at h
      rw [wordsFrom_word cur hd hs, ih _ (by simpa using h), List.append_assoc, List.take_append_drop]
theorem words_trim (d : List UInt8) : words (trim d) = words d := by
  induction d using byRune with
  | h0 => rw [trim_nil]
  | h1 d hd ih =>
    cases hs : spaceN (dec d).1 with
    | false => rw [trim_word hs]
    | true =>
      rw [trim_space hd hs, ih]
      unfold words
      rw [wordsFrom_space [] hd hs]
      simp
theorem words_nil {t : List UInt8} (h : trim t = []) : words t = [] := by
  rw [← words_trim, h]; unfold words; rw [wordsFrom_nil]; rfl
theorem firstWord_ne {t : List UInt8} (h : trim t ≠ []) : firstWord t ≠ [] := by
  have hs := (trim_head t).resolve_left h
  unfold firstWord
  split
  · rename_i p hp
    have h1 := (spAt_some hp).2.2 hs
    have h2 := List.length_pos_iff.2 h
    intro h3
    have := congrArg List.length h3
    simp at this
    rcases this with h4 | h4
    · omega
    · exact h h4
  · exact h
theorem words_cons {t : List UInt8} (h : trim t ≠ []) : words t = firstWord t :: words (behindW t) := by
  have hf := firstWord_ne h
  rw [← words_trim]
  unfold firstWord at hf ⊢
  unfold behindW
  cases hp : spAt (trim t) with
  | some p =>
    simp only [hp] at hf ⊢
    show wordsFrom [] (trim t) = _
    rw [wordsFrom_some [] p hp, List.nil_append, if_neg hf]
    rfl
  | none =>
    simp only [hp] at hf ⊢
    show wordsFrom [] (trim t) = _
    rw [wordsFrom_none [] hp, List.nil_append, if_neg hf, words_nil trim_nil]
theorem behindW_lt {t : List UInt8} (h : trim t ≠ []) : (behindW t).length < t.length := by
  have h1 := trim_len t
  have h2 := List.length_pos_iff.2 h
  unfold behindW
  split
  · rename_i p hp
    have h3 := (spAt_some hp).2.1
    simp; omega
  · simp; omega
theorem words_len : ∀ (n : Nat) (t : List UInt8), t.length ≤ n → (words t).length ≤ t.length := by
  intro n
  induction n with
  | zero =>
    intro t h
    obtain rfl : t = [] := List.length_eq_zero_iff.1 (by omega)
    rw [words_nil trim_nil]; simp
  | succ n ih =>
    intro t h
    by_cases h0 : trim t = []
    · rw [words_nil h0]; simp
    · have h1 := behindW_lt h0
      have := ih (behindW t) (by omega)
      rw [words_cons h0]
      simp; omega
theorem words_small : ∀ (n : Nat) (t : List UInt8), t.length ≤ n → ∀ l ∈ words t, l.length ≤ t.length := by
  intro n
  induction n with
  | zero =>
    intro t h
    obtain rfl : t = [] := List.length_eq_zero_iff.1 (by omega)
    rw [words_nil trim_nil]; simp
  | succ n ih =>
    intro t h l hl
    by_cases h0 : trim t = []
    · rw [words_nil h0] at hl; cases hl
    · have h1 := behindW_lt h0
      rw [words_cons h0] at hl
      rcases List.mem_cons.1 hl with rfl | hl
      · have h2 := trim_len t
        unfold firstWord
        split
        · simp; omega
        · omega
      · have := ih (behindW t) (by omega) l hl
        omega

theorem after_some {σ : Type} (lim : Nat) (s : Sm σ) (h : s.err.isSome = true) : Sm.after lim s = .inl (some none, { s with pend := [] }) := by
  unfold Sm.after; rw [if_pos h]
/-- A round on words, case by case. -/
theorem pre_words (lim : Nat) (x : Sm Unit) : Sm.pre splitWords lim x =
    match spAt (trim x.pend) with
    | some p => .inl (some (some ((trim x.pend).take p.1)), { x with pend := (trim x.pend).drop (p.1 + p.2), emp := 0 })
    | none => if x.err.isSome then (if trim x.pend = [] then .inl (some none, { x with pend := [] }) else .inl (some (some (trim x.pend)), { x with pend := [], emp := 0 }))
      else if (trim x.pend).length = lim then .inl (some none, ({ x with pend := trim x.pend }).setErr cTooLong) else .inr { x with pend := trim x.pend } := by
  obtain ⟨pend, rest, err, emp, done, sp⟩ := x
  cases sp
  have htl := trim_len pend
  have hll := lead_le pend
  cases hn : spAt (trim pend) with
  | some p =>
    have hs := spAt_some hn
    have hp : pend ≠ [] := fun h => by rw [h, trim_nil, spAt_nil] at hn; cases hn
    have h1 : ¬ (((lead pend + p.1 + p.2 : Nat) : Int) < 0) := by omega
    have h2 : ¬ ((pend.length : Int) < ((lead pend + p.1 + p.2 : Nat) : Int)) := by omega
    have h3 : (0 : Int) < ((lead pend + p.1 + p.2 : Nat) : Int) := by omega
    simp only [Sm.pre, hp, ne_eq, not_false_eq_true, true_or, if_true, splitWords, hn, Sm.took]
    rw [if_neg (by decide), if_neg (by decide), if_neg h1, if_neg h2, if_pos (.inr h3), Int.toNat_natCast]
    have : pend.drop (lead pend + p.1 + p.2) = (trim pend).drop (p.1 + p.2) := by
      unfold trim; rw [List.drop_drop]; congr 1; omega
    rw [this]
  | none =>
    have h4 : ¬ (((lead pend : Nat) : Int) < 0) := by omega
    have h5 : ¬ ((pend.length : Int) < ((lead pend : Nat) : Int)) := by omega
    cases err with
    | some c =>
      by_cases hp : trim pend = []
      · simp only [Sm.pre, Option.isSome_some, or_true, if_true, splitWords, hn, hp, spAt_nil, Sm.took, List.isEmpty_nil, Bool.not_true, Bool.and_false, Bool.false_eq_true, if_false]
        rw [if_neg (by decide), if_neg (by decide), if_neg h4, if_neg h5, after_some _ _ rfl]
      · have he : (trim pend).isEmpty = false := by cases h : trim pend with | nil => exact absurd h hp | cons _ _ => rfl
        have hpos := List.length_pos_iff.2 hp
        have h6 : ¬ ((pend.length : Int) < 0) := by omega
        have h7 : ¬ ((pend.length : Int) < (pend.length : Int)) := by omega
        have h8 : (0 : Int) < (pend.length : Int) := by omega
        simp only [Sm.pre, Option.isSome_some, or_true, if_true, splitWords, hn, Sm.took, he, Bool.not_false, Bool.and_self]
        rw [if_neg (by decide), if_neg (by decide), if_neg h6, if_neg h7, if_pos (.inr h8), if_neg hp, Int.toNat_natCast, List.drop_length]
    | none =>
      by_cases hp : pend = []
      · subst hp
        simp [Sm.pre, Sm.after, trim_nil]
      · simp only [Sm.pre, hp, ne_eq, not_false_eq_true, true_or, if_true, splitWords, hn, Sm.took, Option.isSome_none, Bool.false_and, Bool.false_eq_true, if_false]
        rw [if_neg (by decide), if_neg (by decide), if_neg h4, if_neg h5, Int.toNat_natCast]
        unfold Sm.after
        rfl

theorem some_trim {a b : List UInt8} {p : Nat × Nat} (h : spAt (trim a) = some p) : trim (a ++ b) = trim a ++ b ∧ spAt (trim (a ++ b)) = some p := by
  have hne : trim a ≠ [] := fun e => by rw [e, spAt_nil] at h; cases h
  have hs := head_cut b hne ((trim_head a).resolve_left hne) (.inl (by rw [h]; rfl))
  have e : trim (a ++ b) = trim a ++ b := by rw [← trim_cut, trim_word hs]
  exact ⟨e, by rw [e]; exact spAt_cut b h⟩
theorem firstWord_some {a b : List UInt8} {p : Nat × Nat} (h : spAt (trim a) = some p) : firstWord (a ++ b) = (trim a).take p.1 := by
  obtain ⟨e, h1⟩ := some_trim (b := b) h
  have h2 := (spAt_some h).1
  unfold firstWord
  rw [h1]
  show (trim (a ++ b)).take p.1 = _
  rw [e, List.take_append_of_le_length (by omega)]
theorem behindW_some {a b : List UInt8} {p : Nat × Nat} (h : spAt (trim a) = some p) : behindW (a ++ b) = (trim a).drop (p.1 + p.2) ++ b := by
  obtain ⟨e, h1⟩ := some_trim (b := b) h
  have h2 := (spAt_some h).1
  unfold behindW
  rw [h1]
  show (trim (a ++ b)).drop (p.1 + p.2) = _
  rw [e, List.drop_append_of_le_length (by omega)]
/-- a full buffer without a word's end: the first word has no room -/
theorem full_not {lim : Nat} {a b : List UInt8} (h : spAt (trim a) = none) (hl : (trim a).length = lim) (hlim : 4 ≤ lim) : ¬ fitsW lim (a ++ b) := by
  have hne : trim a ≠ [] := fun e => by rw [e] at hl; simp at hl; omega
  have hs := head_cut b hne ((trim_head a).resolve_left hne) (.inr (by omega))
  have e : trim (a ++ b) = trim a ++ b := by rw [← trim_cut, trim_word hs]
  rintro ⟨_, hf⟩
  rw [e] at hf
  cases hp : spAt (trim a ++ b) with
  | some p =>
    rw [hp] at hf
    have h1 := spAt_none_cut b h hp
    simp only at hf
    omega
  | none =>
    rw [hp] at hf
    simp at hf
    omega

theorem rd_fine {lim : Nat} {tog : Bool} {endE : Nat} {x x2 : Sm Unit} (hx : Fine endE x) (he : x.err = none) (hrd : Sm.Rd lim tog endE x x2) : Fine endE x2 ∧ x2.pend ++ x2.rest = x.pend ++ x.rest := by
  obtain ⟨hd, hm, _⟩ := hx
  rcases hrd with ⟨hr, rfl⟩ | ⟨n, _, hn, _, rfl⟩
  · exact ⟨⟨hd, hm, .inr ⟨rfl, hr⟩⟩, rfl⟩
  · split
    · rename_i hb
      simp only [Bool.and_eq_true, beq_iff_eq] at hb
      exact ⟨⟨hd, hm, .inr ⟨rfl, by simp [hb.2]⟩⟩, by simp⟩
    · exact ⟨⟨hd, rfl, .inl he⟩, by simp⟩

/-- One call of Scan on words: the next word, or the end. -/
theorem scan_words (lim : Nat) (tog : Bool) (endE : Nat) (hlim : 4 ≤ lim) : ∀ (k : Nat) (x : Sm Unit) (o : Out) (x' : Sm Unit), Sm.LoopN splitWords lim tog endE k x o x' → Fine endE x → (trim (x.pend ++ x.rest) ≠ [] → fitsW lim (x.pend ++ x.rest)) →
    Fine endE x' ∧ (trim (x.pend ++ x.rest) = [] → o = some none ∧ x'.pend = [] ∧ x'.rest = [] ∧ x'.err = some endE) ∧ (trim (x.pend ++ x.rest) ≠ [] → o = some (some (firstWord (x.pend ++ x.rest))) ∧ x'.pend ++ x'.rest = behindW (x.pend ++ x.rest)) := by
  intro k
  induction k with
  | zero =>
    rintro x o x' h ⟨hd, hm, he⟩ hfit
    simp only [Sm.LoopN, pre_words] at h
    split at h
    · rename_i p hp
      cases h
      refine ⟨⟨hd, rfl, he⟩, fun h0 => ?_, fun _ => ⟨by rw [firstWord_some hp], (behindW_some hp).symm⟩⟩
      have := (some_trim (b := x.rest) hp).2
      rw [h0, spAt_nil] at this; cases this
    · rename_i hi
      split at h
      · rename_i hx
        have hr : x.err = some endE ∧ x.rest = [] := he.resolve_left fun h0 => by rw [h0] at hx; simp at hx
        rw [hr.2, List.append_nil]
        split at h
        · rename_i hp
          cases h
          exact ⟨⟨hd, hm, .inr hr⟩, fun _ => ⟨rfl, rfl, hr.2, hr.1⟩, fun h0 => absurd hp h0⟩
        · rename_i hp
          cases h
          refine ⟨⟨hd, rfl, .inr hr⟩, fun h0 => absurd h0 hp, fun _ => ⟨?_, ?_⟩⟩
          · simp [firstWord, hi]
          · show [] ++ x.rest = _
            rw [hr.2]; simp [behindW, hi]
      · split at h
        · rename_i hl
          exfalso
          have hno := full_not (b := x.rest) hi hl hlim
          refine hno (hfit fun h0 => ?_)
          have hne : trim x.pend ≠ [] := fun e => by rw [e] at hl; simp at hl; omega
          have hs := head_cut x.rest hne ((trim_head x.pend).resolve_left hne) (.inr (by omega))
          rw [← trim_cut, trim_word hs] at h0
          exact hne (List.append_eq_nil_iff.1 h0).1
        · cases h
  | succ k ih =>
    rintro x o x' ⟨x1, x2, hpre, hrd, h⟩ ⟨hd, hm, he⟩ hfit
    rw [pre_words] at hpre
    split at hpre
    · cases hpre
    · split at hpre
      · split at hpre <;> cases hpre
      · rename_i hx
        split at hpre
        · cases hpre
        · cases hpre
          have hxe : x.err = none := by cases hxe : x.err with | none => rfl | some c => rw [hxe] at hx; simp at hx
          obtain ⟨k1, k2⟩ := rd_fine (x := { x with pend := trim x.pend }) ⟨hd, hm, he⟩ hxe hrd
          have k3 : trim (x2.pend ++ x2.rest) = trim (x.pend ++ x.rest) := by rw [k2]; exact trim_cut _ _
          have := ih x2 o x' h k1 (by rw [k3, fitsW_of k3]; exact hfit)
          rw [k3, firstWord_of k3, behindW_of k3] at this
          exact this

/-- all words have room -/
def RoomyW (lim : Nat) (t : List UInt8) : Prop := 5 ≤ lim ∧ ∀ l ∈ words t, l.length + 4 < lim
theorem fitsW_first {lim : Nat} {t : List UInt8} (hl : 5 ≤ lim) (h : (firstWord t).length + 4 < lim) : fitsW lim t := by
  refine ⟨by omega, ?_⟩
  unfold firstWord at h
  split
  · rename_i p hp
    rw [hp] at h
    have := (spAt_some hp).1
    simp at h
    omega
  · rename_i hp
    rw [hp] at h
    simp only at h
    omega
theorem RoomyW.fits {lim : Nat} {t : List UInt8} (h : RoomyW lim t) (h0 : trim t ≠ []) : fitsW lim t :=
  fitsW_first h.1 (h.2 (firstWord t) (by rw [words_cons h0]; simp))
theorem RoomyW.behind {lim : Nat} {t : List UInt8} (h : RoomyW lim t) (h0 : trim t ≠ []) : RoomyW lim (behindW t) :=
  ⟨h.1, fun l hl => h.2 l (by rw [words_cons h0]; simp [hl])⟩

/-- All runs of a scanner of words. -/
theorem words_runs (lim : Nat) (tog : Bool) (endE : Nat) : ∀ (n : Nat) (x : Sm Unit) (ts : List (List UInt8)), (x.pend ++ x.rest).length ≤ n → Fine endE x → RoomyW lim (x.pend ++ x.rest) →
    Runs splitWords lim tog endE (fun ts' x' => ts' = ts ++ words (x.pend ++ x.rest) ∧ Fine endE x' ∧ x'.pend = [] ∧ x'.rest = [] ∧ x'.err = some endE) n x ts := by
  intro n
  induction n with
  | zero =>
    intro x ts hn hx hr o x' hs
    have h00 : x.pend ++ x.rest = [] := List.length_eq_zero_iff.1 (by omega)
    have h0 : trim (x.pend ++ x.rest) = [] := by rw [h00, trim_nil]
    rcases hs with ⟨h, _⟩ | ⟨_, k, hs⟩
    · rw [hx.1] at h; cases h
    · obtain ⟨h1, h2, _⟩ := scan_words lim tog endE (by have := hr.1; omega) k x o x' hs hx (fun h => absurd h0 h)
      obtain ⟨h3, h4⟩ := h2 h0
      exact ⟨h3, by rw [words_nil h0]; simp, h1, h4⟩
  | succ n ih =>
    intro x ts hn hx hr o x' hs
    rcases hs with ⟨h, _⟩ | ⟨_, k, hs⟩
    · rw [hx.1] at h; cases h
    · obtain ⟨h1, h2, h3⟩ := scan_words lim tog endE (by have := hr.1; omega) k x o x' hs hx (fun h => hr.fits h)
      by_cases h0 : trim (x.pend ++ x.rest) = []
      · obtain ⟨h4, h5⟩ := h2 h0
        exact .inl ⟨h4, by rw [words_nil h0]; simp, h1, h5⟩
      · obtain ⟨h4, h5⟩ := h3 h0
        refine .inr ⟨_, h4, ?_⟩
        have hb := behindW_lt h0
        have := ih x' (ts ++ [firstWord (x.pend ++ x.rest)]) (by rw [h5]; omega) h1 (by rw [h5]; exact hr.behind h0)
        rw [h5, List.append_assoc] at this
        rw [words_cons h0]
        exact this

/-- the first word does not fit -/
def LongW (lim : Nat) (tog : Bool) (t : List UInt8) : Prop := lim ≤ (firstWord t).length ∧ (tog = true → lim < (trim t).length)
theorem firstWord_le (t : List UInt8) : (firstWord t).length ≤ (trim t).length := by
  unfold firstWord
  split
  · simp; omega
  · exact Nat.le_refl _
theorem fineL_trim {lim : Nat} {tog : Bool} {endE : Nat} {x : Sm Unit} (h : FineL lim tog endE x) : FineL lim tog endE { x with pend := trim x.pend } := by
  obtain ⟨⟨hd, hm, he⟩, hle, hlt⟩ := h
  have := trim_len x.pend
  exact ⟨⟨hd, hm, he⟩, by show (trim x.pend).length ≤ lim; omega, fun h1 h2 => by have := hlt h1 h2; show (trim x.pend).length < lim; omega⟩

theorem scan_longW (lim : Nat) (tog : Bool) (endE : Nat) (hlim : 0 < lim) : ∀ (k : Nat) (x : Sm Unit) (o : Out) (x' : Sm Unit), Sm.LoopN splitWords lim tog endE k x o x' → FineL lim tog endE x → LongW lim tog (x.pend ++ x.rest) → o = some none ∧ x'.err = some cTooLong := by
  intro k
  induction k with
  | zero =>
    rintro x o x' h ⟨⟨hd, hm, he⟩, hle, hlt⟩ ⟨hlo, hlo2⟩
    have htl := trim_len x.pend
    simp only [Sm.LoopN, pre_words] at h
    split at h
    · rename_i p hp
      exfalso
      have h1 := spAt_some hp
      rw [firstWord_some hp] at hlo
      simp at hlo
      omega
    · rename_i hi
      split at h
      · rename_i hx
        exfalso
        have hr : x.err = some endE ∧ x.rest = [] := he.resolve_left fun h0 => by rw [h0] at hx; simp at hx
        rw [hr.2, List.append_nil] at hlo hlo2
        have h2 := firstWord_le x.pend
        cases tog with
        | false => have := hlt hx rfl; omega
        | true => have := hlo2 rfl; omega
      · rename_i hx
        split at h
        · cases h
          refine ⟨rfl, ?_⟩
          have hxe : x.err = none := by cases hxe : x.err with | none => rfl | some c => rw [hxe] at hx; simp at hx
          simp [Sm.setErr, hxe]
        · cases h
  | succ k ih =>
    rintro x o x' ⟨x1, x2, hpre, hrd, h⟩ hF hL
    rw [pre_words] at hpre
    split at hpre
    · cases hpre
    · split at hpre
      · split at hpre <;> cases hpre
      · rename_i hx
        split at hpre
        · cases hpre
        · rename_i hl
          cases hpre
          have hxe : x.err = none := by cases hxe : x.err with | none => rfl | some c => rw [hxe] at hx; simp at hx
          obtain ⟨h1, h2⟩ := rd_fineL (x := { x with pend := trim x.pend }) (fineL_trim hF) hxe hl hrd
          have k3 : trim (x2.pend ++ x2.rest) = trim (x.pend ++ x.rest) := by rw [h2]; exact trim_cut _ _
          exact ih x2 o x' h h1 (by unfold LongW; rw [firstWord_of k3, k3]; exact hL)

theorem scan_keepsW (lim : Nat) (tog : Bool) (endE : Nat) : ∀ (k : Nat) (x : Sm Unit) (t : List UInt8) (x' : Sm Unit), Sm.LoopN splitWords lim tog endE k x (some (some t)) x' → FineL lim tog endE x → x'.pend.length ≤ lim ∧ (x'.err.isSome = true → tog = false → x'.pend.length < lim) := by
  intro k
  induction k with
  | zero =>
    rintro x t x' h ⟨⟨hd, hm, he⟩, hle, hlt⟩
    have htl := trim_len x.pend
    simp only [Sm.LoopN, pre_words] at h
    split at h
    · cases h
      refine ⟨by simp; omega, fun h1 h2 => ?_⟩
      have := hlt h1 h2
      simp; omega
    · split at h
      · split at h
        · cases h
        · cases h
          refine ⟨by simp, fun h1 h2 => ?_⟩
          have := hlt h1 h2
          simp; omega
      · split at h <;> cases h
  | succ k ih =>
    rintro x t x' ⟨x1, x2, hpre, hrd, h⟩ hF
    rw [pre_words] at hpre
    split at hpre
    · cases hpre
    · split at hpre
      · split at hpre <;> cases hpre
      · rename_i hx
        split at hpre
        · cases hpre
        · rename_i hl
          cases hpre
          have hxe : x.err = none := by cases hxe : x.err with | none => rfl | some c => rw [hxe] at hx; simp at hx
          exact ih x2 t x' h (rd_fineL (x := { x with pend := trim x.pend }) (fineL_trim hF) hxe hl hrd).1

/-- k words that fit, then one that does not -/
def LongAtW (lim : Nat) (tog : Bool) : Nat → List UInt8 → Prop
  | 0, t => LongW lim tog t
  | k + 1, t => trim t ≠ [] ∧ fitsW lim t ∧ LongAtW lim tog k (behindW t)

/-- All runs: the words ahead of it, then ErrTooLong. -/
theorem longW_runs (lim : Nat) (tog : Bool) (endE : Nat) (hlim : 4 ≤ lim) : ∀ (k : Nat) (x : Sm Unit) (ts : List (List UInt8)), FineL lim tog endE x → LongAtW lim tog k (x.pend ++ x.rest) →
    Runs splitWords lim tog endE (fun ts' x' => ts' = ts ++ (words (x.pend ++ x.rest)).take k ∧ x'.err = some cTooLong) k x ts := by
  intro k
  induction k with
  | zero =>
    intro x ts hF hL o x' hs
    rcases hs with ⟨h, _⟩ | ⟨_, j, hs⟩
    · rw [hF.1.1] at h; cases h
    · obtain ⟨h1, h2⟩ := scan_longW lim tog endE (by omega) j x o x' hs hF hL
      exact ⟨h1, by simp, h2⟩
  | succ k ih =>
    intro x ts hF hL o x' hs
    obtain ⟨hne, hfit, hL'⟩ := hL
    rcases hs with ⟨h, _⟩ | ⟨_, j, hs⟩
    · rw [hF.1.1] at h; cases h
    · obtain ⟨h1, _, h3⟩ := scan_words lim tog endE hlim j x o x' hs hF.1 (fun _ => hfit)
      obtain ⟨rfl, h5⟩ := h3 hne
      refine .inr ⟨_, rfl, ?_⟩
      have hk := scan_keepsW lim tog endE j x _ x' hs hF
      have := ih x' (ts ++ [firstWord (x.pend ++ x.rest)]) ⟨h1, hk⟩ (by rw [h5]; exact hL')
      rw [h5] at this
      rw [words_cons hne, List.take_succ_cons, ← List.singleton_append, ← List.append_assoc]
      exact this

/-- out of the words' lengths -/
theorem longAtW_of (lim : Nat) (tog : Bool) (hl5 : 5 ≤ lim) : ∀ (k : Nat) (t : List UInt8) (h : k < (words t).length), (∀ l ∈ (words t).take k, l.length + 4 < lim) → ((words t)[k].length > lim ∨ (tog = false ∧ (words t)[k].length ≥ lim)) → LongAtW lim tog k t := by
  intro k
  induction k with
  | zero =>
    intro t h _ hk
    have hne : trim t ≠ [] := fun e => by rw [words_nil e] at h; simp at h
    have e : (words t)[0] = firstWord t := by simp [words_cons hne]
    rw [e] at hk
    have h1 := firstWord_le t
    refine ⟨by rcases hk with hk | ⟨_, hk⟩ <;> omega, fun ht => ?_⟩
    rcases hk with hk | ⟨h2, _⟩
    · omega
    · rw [h2] at ht; cases ht
  | succ k ih =>
    intro t h hb hk
    have hne : trim t ≠ [] := fun e => by rw [words_nil e] at h; simp at h
    have e := words_cons hne
    refine ⟨hne, ?_, ?_⟩
    · exact fitsW_first hl5 (hb _ (by rw [e]; simp))
    · refine ih _ (by rw [e] at h; simpa using h) (fun l hl => hb l (by rw [e]; simp [hl])) ?_
      have e2 : (words t)[k + 1] = (words (behindW t))[k]'(by rw [e] at h; simpa using h) := by simp [e]
      rw [e2] at hk
      exact hk
end Go.Proofs.YtkclapimgmnldaaDoor
