/-
  Words, in plain words: no program in sight.
-/
import Derived.Test.YtkafojdjadnfaaaDoorModel
import Derived.Lib.DecodeN
namespace Go.Proofs.YtkafojdjadnfaaaDoor
set_option linter.unusedVariables false
set_option linter.unusedSimpArgs false
set_option maxRecDepth 20000
open Go.Lib (decodeN)

/-- the byte at a place, 0 behind the end -/
def byt (d : List UInt8) (i : Nat) : Nat := (d[i]?.getD 0).toNat
/-- the rune at the head, and its width -/
def dec (d : List UInt8) : Nat × Nat := decodeN d.length (byt d 0) (byt d 1) (byt d 2) (byt d 3)
/-- a rune is a space -/
def spaceN (r : Nat) : Bool := decide ((9 ≤ r ∧ r ≤ 13) ∨ r = 32 ∨ r = 133 ∨ r = 160 ∨ r = 5760 ∨ (8192 ≤ r ∧ r ≤ 8202) ∨ r = 8232 ∨ r = 8233 ∨ r = 8239 ∨ r = 8287 ∨ r = 12288)
theorem spaceN_bad : spaceN 65533 = false := by decide

set_option maxRecDepth 100000 in
theorem decodeN_pos (n b0 b1 b2 b3 : Nat) : 1 ≤ (decodeN n b0 b1 b2 b3).2 ∧ (decodeN n b0 b1 b2 b3).2 ≤ 4 := by
  unfold decodeN
  repeat' split
  all_goals simp
set_option maxRecDepth 100000 in
theorem decodeN_le (n b0 b1 b2 b3 : Nat) (h : 1 ≤ n) : (decodeN n b0 b1 b2 b3).2 ≤ n := by
  unfold decodeN
  repeat' split
  all_goals first | (simp; omega) | simp_all
set_option maxRecDepth 100000 in
theorem decodeN_low (n b0 b1 b2 b3 : Nat) (h : b0 < 128) : decodeN n b0 b1 b2 b3 = (b0, 1) := by
  unfold decodeN
  rw [if_pos h]
set_option maxRecDepth 100000 in
theorem decodeN_cont (n b0 b1 b2 b3 : Nat) (h : b0 / 64 = 2) : decodeN n b0 b1 b2 b3 = (65533, 1) := by
  unfold decodeN
  repeat' split
  all_goals first | rfl | (exfalso; omega)
set_option maxRecDepth 100000 in
set_option maxHeartbeats 4000000 in
theorem decodeN_tail (n b0 b1 b2 b3 : Nat) : (1 < (decodeN n b0 b1 b2 b3).2 → b1 / 64 = 2) ∧ (2 < (decodeN n b0 b1 b2 b3).2 → b2 / 64 = 2) ∧ (3 < (decodeN n b0 b1 b2 b3).2 → b3 / 64 = 2) := by
  unfold decodeN
  repeat' split
  all_goals (simp only; omega)
set_option maxRecDepth 100000 in
set_option maxHeartbeats 4000000 in
theorem decodeN_cut (n m b0 b1 b2 b3 c1 c2 c3 : Nat) (hn : 1 ≤ n) (hm : n ≤ m) (h1 : 1 < n → c1 = b1) (h2 : 2 < n → c2 = b2) (h3 : 3 < n → c3 = b3) :
    decodeN m b0 b1 b2 b3 = decodeN n b0 c1 c2 c3 ∨ (decodeN n b0 c1 c2 c3 = (65533, 1) ∧ n < (decodeN m b0 b1 b2 b3).2) := by
  by_cases h4 : 4 ≤ n
  · left
    rw [h1 (by omega), h2 (by omega), h3 (by omega)]
    have e1 : (1 < m) = (1 < n) := propext ⟨fun _ => by omega, fun _ => by omega⟩
    have e2 : (2 < m) = (2 < n) := propext ⟨fun _ => by omega, fun _ => by omega⟩
    have e3 : (3 < m) = (3 < n) := propext ⟨fun _ => by omega, fun _ => by omega⟩
    unfold decodeN
    simp only [e1, e2, e3]
  · obtain rfl | rfl | rfl : n = 1 ∨ n = 2 ∨ n = 3 := by omega
    · unfold decodeN
      repeat' split
      all_goals first | (left; rfl) | (right; refine ⟨rfl, ?_⟩; simp only; omega) | (exfalso; omega)
    · obtain rfl := h1 (by omega)
      unfold decodeN
      repeat' split
      all_goals first | (left; rfl) | (right; refine ⟨rfl, ?_⟩; simp only; omega) | (exfalso; omega)
    · obtain rfl := h1 (by omega)
      obtain rfl := h2 (by omega)
      unfold decodeN
      repeat' split
      all_goals first | (left; rfl) | (right; refine ⟨rfl, ?_⟩; simp only; omega) | (exfalso; omega)

theorem dec_pos (d : List UInt8) : 1 ≤ (dec d).2 := (decodeN_pos _ _ _ _ _).1
theorem dec_four (d : List UInt8) : (dec d).2 ≤ 4 := (decodeN_pos _ _ _ _ _).2
theorem dec_le {d : List UInt8} (h : d ≠ []) : (dec d).2 ≤ d.length := decodeN_le _ _ _ _ _ (List.length_pos_iff.2 h)
theorem byt_app {a b : List UInt8} {i : Nat} (h : i < a.length) : byt (a ++ b) i = byt a i := by
  unfold byt; rw [List.getElem?_append_left h]
theorem byt_drop (d : List UInt8) (n i : Nat) : byt (d.drop n) i = byt d (n + i) := by
  unfold byt; rw [List.getElem?_drop]
theorem dec_cut {a : List UInt8} (b : List UInt8) (h : a ≠ []) : dec (a ++ b) = dec a ∨ (dec a = (65533, 1) ∧ a.length < (dec (a ++ b)).2) := by
  have hl := List.length_pos_iff.2 h
  have := decodeN_cut a.length (a ++ b).length (byt (a ++ b) 0) (byt (a ++ b) 1) (byt (a ++ b) 2) (byt (a ++ b) 3) (byt a 1) (byt a 2) (byt a 3) hl (by simp) (fun h => (byt_app h).symm) (fun h => (byt_app h).symm) (fun h => (byt_app h).symm)
  rw [byt_app hl] at this
  unfold dec
  rw [byt_app hl]
  exact this
theorem dec_tail {d : List UInt8} {j : Nat} (h : j < (dec d).2) (h1 : 1 ≤ j) : byt d j / 64 = 2 := by
  have h4 := dec_four d
  obtain ⟨t1, t2, t3⟩ := decodeN_tail d.length (byt d 0) (byt d 1) (byt d 2) (byt d 3)
  obtain rfl | rfl | rfl : j = 1 ∨ j = 2 ∨ j = 3 := by omega
  · exact t1 h
  · exact t2 h
  · exact t3 h
theorem dec_cont {d : List UInt8} (h : byt d 0 / 64 = 2) : dec d = (65533, 1) := decodeN_cont _ _ _ _ _ h

theorem drop_lt {d : List UInt8} (h : d ≠ []) : (d.drop (dec d).2).length < d.length := by
  have h1 := dec_pos d
  have h2 := List.length_pos_iff.2 h
  simp; omega

/-- the bytes of the spaces at the head -/
def lead (d : List UInt8) : Nat := if h : d = [] then 0 else if spaceN (dec d).1 then (dec d).2 + lead (d.drop (dec d).2) else 0
termination_by d.length
decreasing_by exact drop_lt h
/-- where the first space stands, and its width -/
def spAt (d : List UInt8) : Option (Nat × Nat) := if h : d = [] then none else if spaceN (dec d).1 then some (0, (dec d).2) else (spAt (d.drop (dec d).2)).map fun p => (p.1 + (dec d).2, p.2)
termination_by d.length
decreasing_by exact drop_lt h
/-- the words of a text, as the reference makes them; cur is what stands behind the last space -/
def wordsFrom (cur d : List UInt8) : List (List UInt8) := if h : d = [] then (if cur = [] then [] else [cur]) else if spaceN (dec d).1 then (if cur = [] then [] else [cur]) ++ wordsFrom [] (d.drop (dec d).2) else wordsFrom (cur ++ d.take (dec d).2) (d.drop (dec d).2)
termination_by d.length
decreasing_by
  · exact drop_lt h
  · exact drop_lt h
def words (t : List UInt8) : List (List UInt8) := wordsFrom [] t
/-- without the spaces at the head -/
def trim (d : List UInt8) : List UInt8 := d.drop (lead d)

theorem lead_nil : lead [] = 0 := by rw [lead]; simp
theorem lead_space {d : List UInt8} (h : d ≠ []) (hs : spaceN (dec d).1 = true) : lead d = (dec d).2 + lead (d.drop (dec d).2) := by
  rw [lead, dif_neg h, if_pos hs]
theorem lead_word {d : List UInt8} (hs : spaceN (dec d).1 = false) : lead d = 0 := by
  rw [lead]; split
  · rfl
  · rw [if_neg (by simp [hs])]
theorem spAt_nil : spAt [] = none := by rw [spAt]; simp
theorem spAt_space {d : List UInt8} (h : d ≠ []) (hs : spaceN (dec d).1 = true) : spAt d = some (0, (dec d).2) := by
  rw [spAt, dif_neg h, if_pos hs]
theorem spAt_word {d : List UInt8} (h : d ≠ []) (hs : spaceN (dec d).1 = false) : spAt d = (spAt (d.drop (dec d).2)).map fun p => (p.1 + (dec d).2, p.2) := by
  rw [spAt, dif_neg h, if_neg (by simp [hs])]
theorem wordsFrom_nil (cur : List UInt8) : wordsFrom cur [] = if cur = [] then [] else [cur] := by rw [wordsFrom]; simp
theorem wordsFrom_space (cur : List UInt8) {d : List UInt8} (h : d ≠ []) (hs : spaceN (dec d).1 = true) : wordsFrom cur d = (if cur = [] then [] else [cur]) ++ wordsFrom [] (d.drop (dec d).2) := by
  rw [wordsFrom, dif_neg h, if_pos hs]
theorem wordsFrom_word (cur : List UInt8) {d : List UInt8} (h : d ≠ []) (hs : spaceN (dec d).1 = false) : wordsFrom cur d = wordsFrom (cur ++ d.take (dec d).2) (d.drop (dec d).2) := by
  rw [wordsFrom, dif_neg h, if_neg (by simp [hs])]

/-- induction along the runes -/
theorem byRune {Q : List UInt8 → Prop} (h0 : Q []) (h1 : ∀ d, d ≠ [] → Q (d.drop (dec d).2) → Q d) : ∀ d, Q d := by
  have : ∀ n (d : List UInt8), d.length ≤ n → Q d := by
    intro n
    induction n with
    | zero =>
      intro d h
      obtain rfl : d = [] := List.length_eq_zero_iff.1 (by omega)
      exact h0
    | succ n ih =>
      intro d h
      by_cases hd : d = []
      · subst hd; exact h0
      · exact h1 d hd (ih _ (by have := drop_lt hd; omega))
  exact fun d => this d.length d (Nat.le_refl _)

theorem lead_le (d : List UInt8) : lead d ≤ d.length := by
  induction d using byRune with
  | h0 => rw [lead_nil]; simp
  | h1 d hd ih =>
    cases hs : spaceN (dec d).1 with
    | true =>
      rw [lead_space hd hs]
      have h1 := dec_le hd
      have h2 := drop_lt hd
      simp at ih h2
      omega
    | false => rw [lead_word hs]; omega
theorem trim_nil : trim [] = [] := by simp [trim]
theorem trim_space {d : List UInt8} (h : d ≠ []) (hs : spaceN (dec d).1 = true) : trim d = trim (d.drop (dec d).2) := by
  unfold trim; rw [lead_space h hs, List.drop_drop]
theorem trim_word {d : List UInt8} (hs : spaceN (dec d).1 = false) : trim d = d := by
  unfold trim; rw [lead_word hs]; rfl
theorem trim_len (d : List UInt8) : (trim d).length = d.length - lead d := by simp [trim]
theorem trim_head (d : List UInt8) : trim d = [] ∨ spaceN (dec (trim d)).1 = false := by
  induction d using byRune with
  | h0 => exact .inl trim_nil
  | h1 d hd ih =>
    cases hs : spaceN (dec d).1 with
    | true => rw [trim_space hd hs]; exact ih
    | false => rw [trim_word hs]; exact .inr hs
theorem trim_trim (d : List UInt8) : trim (trim d) = trim d := by
  rcases trim_head d with h | h
  · rw [h, trim_nil]
  · exact trim_word h

theorem spAt_some {d : List UInt8} : ∀ {p : Nat × Nat}, spAt d = some p → p.1 + p.2 ≤ d.length ∧ 1 ≤ p.2 ∧ (spaceN (dec d).1 = false → 1 ≤ p.1) := by
  induction d using byRune with
  | h0 => intro p h; rw [spAt_nil] at h; cases h
  | h1 d hd ih =>
    intro p h
    have hp := dec_pos d
    have hle := dec_le hd
    cases hs : spaceN (dec d).1 with
    | true =>
      rw [spAt_space hd hs] at h
      cases h
      exact ⟨by simpa using hle, hp, fun h => by cases h⟩
    | false =>
      rw [spAt_word hd hs] at h
      obtain ⟨q, hq, rfl⟩ := Option.map_eq_some_iff.1 h
      obtain ⟨h1, h2, _⟩ := ih hq
      simp at h1
      exact ⟨by simp; omega, h2, fun _ => by simp; omega⟩
theorem spAt_cont {d : List UInt8} (h : ∀ j, j < d.length → byt d j / 64 = 2) : spAt d = none := by
  induction d using byRune with
  | h0 => exact spAt_nil
  | h1 d hd ih =>
    have h0 := dec_cont (h 0 (List.length_pos_iff.2 hd))
    rw [spAt_word hd (by rw [h0]; exact spaceN_bad)]
    rw [ih ?_]; rfl
    intro j hj
    rw [byt_drop]
    rw [List.length_drop] at hj
    exact h _ (by omega)
/-- a rune that is cut makes no space -/
theorem cut_none {a : List UInt8} (b : List UInt8) (h : a ≠ []) (h1 : dec a = (65533, 1)) (h2 : a.length < (dec (a ++ b)).2) : spAt a = none ∧ spaceN (dec a).1 = false := by
  have hs : spaceN (dec a).1 = false := by rw [h1]; exact spaceN_bad
  refine ⟨?_, hs⟩
  rw [spAt_word h hs, spAt_cont]; rfl
  intro j hj
  rw [byt_drop]
  rw [List.length_drop] at hj
  have hp := dec_pos a
  rw [← byt_app (b := b) (by omega)]
  exact dec_tail (by omega) (by omega)
theorem spAt_cut {a : List UInt8} (b : List UInt8) : ∀ {p : Nat × Nat}, spAt a = some p → spAt (a ++ b) = some p := by
  induction a using byRune with
  | h0 => intro p h; rw [spAt_nil] at h; cases h
  | h1 a ha ih =>
    intro p h
    have hne : a ++ b ≠ [] := by simp [ha]
    rcases dec_cut b ha with e | ⟨e1, e2⟩
    · cases hs : spaceN (dec a).1 with
      | true =>
        rw [spAt_space ha hs] at h
        rw [spAt_space hne (by rw [e]; exact hs), e]
        exact h
      | false =>
        rw [spAt_word ha hs] at h
        obtain ⟨q, hq, rfl⟩ := Option.map_eq_some_iff.1 h
        rw [spAt_word hne (by rw [e]; exact hs), e, List.drop_append_of_le_length (dec_le ha), ih hq]
        rfl
    · rw [(cut_none b ha e1 e2).1] at h; cases h
/-- what begins with a word and has its space keeps its head -/
theorem head_cut {a : List UInt8} (b : List UInt8) (ha : a ≠ []) (hs : spaceN (dec a).1 = false) (h : (spAt a).isSome = true ∨ 4 ≤ a.length) : spaceN (dec (a ++ b)).1 = false := by
  rcases dec_cut b ha with e | ⟨e1, e2⟩
  · rw [e]; exact hs
  · exfalso
    rcases h with h | h
    · rw [(cut_none b ha e1 e2).1] at h; cases h
    · have := dec_four (a ++ b); omega
theorem spAt_none_cut {a : List UInt8} (b : List UInt8) : ∀ {p : Nat × Nat}, spAt a = none → spAt (a ++ b) = some p → a.length ≤ p.1 + 3 := by
  induction a using byRune with
  | h0 => intro p _ _; simp
  | h1 a ha ih =>
    intro p h h'
    have hne : a ++ b ≠ [] := by simp [ha]
    rcases dec_cut b ha with e | ⟨e1, e2⟩
    · cases hs : spaceN (dec a).1 with
      | true => rw [spAt_space ha hs] at h; cases h
      | false =>
        rw [spAt_word ha hs] at h
        rw [spAt_word hne (by rw [e]; exact hs), e, List.drop_append_of_le_length (dec_le ha)] at h'
        obtain ⟨q, hq, rfl⟩ := Option.map_eq_some_iff.1 h'
        have := ih (by simpa using h) hq
        simp at this
        simp; omega
    · have := dec_four (a ++ b); omega
/-- dropping spaces of a beginning leaves what is trimmed -/
theorem trim_cut (b a : List UInt8) : trim (trim a ++ b) = trim (a ++ b) := by
  induction a using byRune with
  | h0 => rw [trim_nil]
  | h1 a ha ih =>
    cases hs : spaceN (dec a).1 with
    | false => rw [trim_word hs]
    | true =>
      have e : dec (a ++ b) = dec a := by
        rcases dec_cut b ha with e | ⟨e1, _⟩
        · exact e
        · rw [e1, spaceN_bad] at hs; cases hs
      rw [trim_space ha hs, ih, trim_space (d := a ++ b) (by simp [ha]) (by rw [e]; exact hs), e, List.drop_append_of_le_length (dec_le ha)]

/-- the first word, and what stands behind it -/
def firstWord (t : List UInt8) : List UInt8 := match spAt (trim t) with | some p => (trim t).take p.1 | none => trim t
def behindW (t : List UInt8) : List UInt8 := match spAt (trim t) with | some p => (trim t).drop (p.1 + p.2) | none => []
/-- the first word has room -/
def fitsW (lim : Nat) (t : List UInt8) : Prop := 4 ≤ lim ∧ match spAt (trim t) with | some p => p.1 + 3 < lim | none => (trim t).length < lim
/-- what ScanWords answers -/
def splitWords (_ : Unit) (d : List UInt8) (eof : Bool) : Ans Unit :=
  match spAt (trim d) with
  | some p => ⟨(), ((lead d + p.1 + p.2 : Nat) : Int), some ((trim d).take p.1), 0⟩
  | none => if eof && !(trim d).isEmpty then ⟨(), (d.length : Int), some (trim d), 0⟩ else ⟨(), (lead d : Int), none, 0⟩

theorem firstWord_of {t t' : List UInt8} (h : trim t' = trim t) : firstWord t' = firstWord t := by unfold firstWord; rw [h]
theorem behindW_of {t t' : List UInt8} (h : trim t' = trim t) : behindW t' = behindW t := by unfold behindW; rw [h]
theorem fitsW_of {lim : Nat} {t t' : List UInt8} (h : trim t' = trim t) : fitsW lim t' = fitsW lim t := by unfold fitsW; rw [h]

theorem wordsFrom_some {d : List UInt8} : ∀ (cur : List UInt8) (p : Nat × Nat), spAt d = some p → wordsFrom cur d = (if cur ++ d.take p.1 = [] then [] else [cur ++ d.take p.1]) ++ words (d.drop (p.1 + p.2)) := by
  induction d using byRune with
  | h0 => intro cur p h; rw [spAt_nil] at h; cases h
  | h1 d hd ih =>
    intro cur p h
    cases hs : spaceN (dec d).1 with
    | true =>
      rw [spAt_space hd hs] at h
      cases h
      rw [wordsFrom_space cur hd hs]
      simp [words]
    | false =>
      rw [spAt_word hd hs] at h
      obtain ⟨q, hq, rfl⟩ := Option.map_eq_some_iff.1 h
      have hle := dec_le hd
      rw [wordsFrom_word cur hd hs, ih _ q hq]
      have e1 : d.take (q.1 + (dec d).2) = d.take (dec d).2 ++ (d.drop (dec d).2).take q.1 := by
        rw [Nat.add_comm, List.take_add]
      have e2 : (d.drop (dec d).2).drop (q.1 + q.2) = d.drop (q.1 + (dec d).2 + q.2) := by
        rw [List.drop_drop]; congr 1; omega
      rw [e1, e2, List.append_assoc]
theorem wordsFrom_none {d : List UInt8} : ∀ (cur : List UInt8), spAt d = none → wordsFrom cur d = if cur ++ d = [] then [] else [cur ++ d] := by
  induction d using byRune with
  | h0 => intro cur _; rw [wordsFrom_nil]; simp
  | h1 d hd ih =>
    intro cur h
    cases hs : spaceN (dec d).1 with
    | true => rw [spAt_space hd hs] at h; cases h
    | false =>
      rw [spAt_word hd hs] at h
      rw [wordsFrom_word cur hd hs, ih _ (by simpa using h), List.append_assoc, List.take_append_drop]
theorem words_trim (d : List UInt8) : words (trim d) = words d := by
  induction d using byRune with
  | h0 => rw [trim_nil]
  | h1 d hd ih =>
    cases hs : spaceN (dec d).1 with
    | false => rw [trim_word hs]
    | true =>
      rw [trim_space hd hs, ih]
      unfold words
      rw [wordsFrom_space [] hd hs]
      simp
theorem words_nil {t : List UInt8} (h : trim t = []) : words t = [] := by
  rw [← words_trim, h]; unfold words; rw [wordsFrom_nil]; rfl
theorem firstWord_ne {t : List UInt8} (h : trim t ≠ []) : firstWord t ≠ [] := by
  have hs := (trim_head t).resolve_left h
  unfold firstWord
  split
  · rename_i p hp
    have h1 := (spAt_some hp).2.2 hs
    have h2 := List.length_pos_iff.2 h
    intro h3
    have := congrArg List.length h3
    simp at this
    rcases this with h4 | h4
    · omega
    · exact h h4
  · exact h
theorem words_cons {t : List UInt8} (h : trim t ≠ []) : words t = firstWord t :: words (behindW t) := by
  have hf := firstWord_ne h
  rw [← words_trim]
  unfold firstWord at hf ⊢
  unfold behindW
  cases hp : spAt (trim t) with
  | some p =>
    simp only [hp] at hf ⊢
    show wordsFrom [] (trim t) = _
    rw [wordsFrom_some [] p hp, List.nil_append, if_neg hf]
    rfl
  | none =>
    simp only [hp] at hf ⊢
    show wordsFrom [] (trim t) = _
    rw [wordsFrom_none [] hp, List.nil_append, if_neg hf, words_nil trim_nil]
theorem behindW_lt {t : List UInt8} (h : trim t ≠ []) : (behindW t).length < t.length := by
  have h1 := trim_len t
  have h2 := List.length_pos_iff.2 h
  unfold behindW
  split
  · rename_i p hp
    have h3 := (spAt_some hp).2.1
    simp; omega
  · simp; omega
theorem words_len : ∀ (n : Nat) (t : List UInt8), t.length ≤ n → (words t).length ≤ t.length := by
  intro n
  induction n with
  | zero =>
    intro t h
    obtain rfl : t = [] := List.length_eq_zero_iff.1 (by omega)
    rw [words_nil trim_nil]; simp
  | succ n ih =>
    intro t h
    by_cases h0 : trim t = []
    · rw [words_nil h0]; simp
    · have h1 := behindW_lt h0
      have := ih (behindW t) (by omega)
      rw [words_cons h0]
      simp; omega
theorem words_small : ∀ (n : Nat) (t : List UInt8), t.length ≤ n → ∀ l ∈ words t, l.length ≤ t.length := by
  intro n
  induction n with
  | zero =>
    intro t h
    obtain rfl : t = [] := List.length_eq_zero_iff.1 (by omega)
    rw [words_nil trim_nil]; simp
  | succ n ih =>
    intro t h l hl
    by_cases h0 : trim t = []
    · rw [words_nil h0] at hl; cases hl
    · have h1 := behindW_lt h0
      rw [words_cons h0] at hl
      rcases List.mem_cons.1 hl with rfl | hl
      · have h2 := trim_len t
        unfold firstWord
        split
        · simp; omega
        · omega
      · have := ih (behindW t) (by omega) l hl
        omega
end Go.Proofs.YtkafojdjadnfaaaDoor
