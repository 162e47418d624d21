/-
  Plain facts on words that single laws want: no program in sight.
-/
import Derived.Test.YtnoaljlbhihgjaaDoorWordRuns
import Derived.Test.YtnoaljlbhihgjaaDoorFacts
namespace Go.Proofs.YtnoaljlbhihgjaaDoor
set_option linter.unusedVariables false
set_option linter.unusedSimpArgs false
set_option maxRecDepth 20000

theorem dec_low {c : UInt8} {b : List UInt8} (h : c.toNat < 128) : dec (c :: b) = (c.toNat, 1) := by
  unfold dec
  exact decodeN_low _ _ _ _ _ (by simpa [byt] using h)
/-- ahead of a byte below 128 every rune is what it is by itself -/
theorem dec_ahead {a : List UInt8} (c : UInt8) (b : List UInt8) (hc : c.toNat < 128) (h : a ≠ []) : dec (a ++ c :: b) = dec a := by
  rcases dec_cut (c :: b) h with e | ⟨_, e2⟩
  · exact e
  · exfalso
    have hl := List.length_pos_iff.2 h
    have h1 := dec_tail e2 hl
    unfold byt at h1
    rw [List.getElem?_append_right (Nat.le_refl _)] at h1
    simp at h1
    omega
/-- a byte that is a space parts the words -/
theorem wordsFrom_part (c : UInt8) (b : List UInt8) (hc : c.toNat < 128) (hs : spaceN c.toNat = true) (a : List UInt8) : ∀ cur : List UInt8, wordsFrom cur (a ++ c :: b) = wordsFrom cur a ++ words b := by
  induction a using byRune with
  | h0 =>
    intro cur
    rw [List.nil_append, wordsFrom_space cur (by simp) (by rw [dec_low hc]; exact hs), dec_low hc, wordsFrom_nil]
    rfl
  | h1 a ha ih =>
    intro cur
    have e := dec_ahead c b hc ha
    have hne : a ++ c :: b ≠ [] := by simp
    cases hsp : spaceN (dec a).1 with
    | true =>
      rw [wordsFrom_space cur hne (by rw [e]; exact hsp), wordsFrom_space cur ha hsp, e, List.drop_append_of_le_length (dec_le ha), ih, List.append_assoc]
    | false =>
      rw [wordsFrom_word cur hne (by rw [e]; exact hsp), wordsFrom_word cur ha hsp, e, List.drop_append_of_le_length (dec_le ha), List.take_append_of_le_length (dec_le ha), ih]
theorem words_part (c : UInt8) (hc : c.toNat < 128) (hs : spaceN c.toNat = true) (a b : List UInt8) : words (a ++ c :: b) = words a ++ words b := wordsFrom_part c b hc hs a []
theorem words_empty : words [] = [] := words_nil trim_nil
theorem words_blank (a b : List UInt8) : words (a ++ 32 :: b) = words a ++ words b := words_part 32 (by decide) (by decide) a b
theorem words_newline (a b : List UInt8) : words (a ++ 10 :: b) = words a ++ words b := words_part 10 (by decide) (by decide) a b
theorem words_noCR (a : List UInt8) : words (noCR a) = words a := by
  unfold noCR
  split
  · rename_i h
    obtain ⟨l, rfl⟩ : ∃ l, a = l ++ [13] := by
      rcases List.eq_nil_or_concat a with rfl | ⟨l, z, rfl⟩
      · simp at h
      · simp at h; subst h; exact ⟨l, by simp⟩
    rw [List.dropLast_concat, words_part 13 (by decide) (by decide) l [], words_empty, List.append_nil]
  · rfl
/-- the words of all lines are the words -/
theorem words_lines : ∀ (n : Nat) (t : List UInt8), t.length ≤ n → (lines t).flatMap words = words t := by
  intro n
  induction n with
  | zero =>
    intro t h
    obtain rfl : t = [] := List.length_eq_zero_iff.1 (by omega)
    rw [lines_nil, words_empty]; rfl
  | succ n ih =>
    intro t h
    by_cases h0 : t = []
    · subst h0; rw [lines_nil, words_empty]; rfl
    · cases hn : nlAt t with
      | none => rw [lines_none hn h0]; simp
      | some i =>
        obtain ⟨h1, _, hlt⟩ := nlAt_some hn
        have e : t = t.take i ++ 10 :: t.drop (i + 1) := by
          have h2 : t[i] = 10 := by rw [List.getElem?_eq_getElem hlt] at h1; exact Option.some.inj h1
          rw [← h2, List.getElem_cons_drop, List.take_append_drop]
        rw [lines_some hn, List.flatMap_cons, words_noCR, ih _ (by simp; omega)]
        conv => rhs; rw [e]
        rw [words_newline]
/-- a word has no space -/
theorem spAt_take {d : List UInt8} : ∀ {p : Nat × Nat}, spAt d = some p → spAt (d.take p.1) = none := by
  induction d using byRune with
  | h0 => intro p h; rw [spAt_nil] at h; cases h
  | h1 d hd ih =>
    intro p h
    cases hs : spaceN (dec d).1 with
    | true =>
      rw [spAt_space hd hs] at h
      cases h
      exact spAt_nil
    | false =>
      rw [spAt_word hd hs] at h
      obtain ⟨q, hq, rfl⟩ := Option.map_eq_some_iff.1 h
      have hle := dec_le hd
      have hp := dec_pos d
      have h1 := (spAt_some hq).1
      simp at h1
      have hane : d.take (q.1 + (dec d).2) ≠ [] := fun e => by have := congrArg List.length e; rw [List.length_take, List.length_nil] at this; omega
      have e1 : dec (d.take (q.1 + (dec d).2)) = dec d := by
        have := dec_cut (d.drop (q.1 + (dec d).2)) hane
        rw [List.take_append_drop] at this
        rcases this with e | ⟨_, e2⟩
        · exact e.symm
        · rw [List.length_take] at e2; omega
      rw [spAt_word hane (by rw [e1]; exact hs), e1]
      have e2 : (d.take (q.1 + (dec d).2)).drop (dec d).2 = (d.drop (dec d).2).take q.1 := by
        rw [List.drop_take]; congr 1; omega
      rw [e2, ih hq]; rfl
theorem firstWord_plain (t : List UInt8) : spAt (firstWord t) = none := by
  unfold firstWord
  cases hp : spAt (trim t) with
  | some p => exact spAt_take hp
  | none => exact hp
theorem words_plain : ∀ (n : Nat) (t : List UInt8), t.length ≤ n → ∀ l ∈ words t, l ≠ [] ∧ spAt l = none := by
  intro n
  induction n with
  | zero =>
    intro t h
    obtain rfl : t = [] := List.length_eq_zero_iff.1 (by omega)
    rw [words_empty]; simp
  | succ n ih =>
    intro t h l hl
    by_cases h0 : trim t = []
    · rw [words_nil h0] at hl; cases hl
    · have h1 := behindW_lt h0
      rw [words_cons h0] at hl
      rcases List.mem_cons.1 hl with rfl | hl
      · exact ⟨firstWord_ne h0, firstWord_plain t⟩
      · exact ih _ (by omega) l hl
/-- such a word is the only word of itself -/
theorem words_self {l : List UInt8} (h : l ≠ []) (hs : spAt l = none) : words l = [l] := by
  unfold words
  rw [wordsFrom_none [] hs, List.nil_append, if_neg h]
/-- words with single spaces between them -/
def joinW : List (List UInt8) → List UInt8
  | [] => []
  | [l] => l
  | l :: r => l ++ 32 :: joinW r
theorem words_joinW : ∀ ls : List (List UInt8), (∀ l ∈ ls, l ≠ [] ∧ spAt l = none) → words (joinW ls) = ls
  | [], _ => words_empty
  | [l], h => words_self (h l (by simp)).1 (h l (by simp)).2
  | l :: r :: rest, h => by
    show words (l ++ 32 :: joinW (r :: rest)) = _
    rw [words_blank, words_self (h l (by simp)).1 (h l (by simp)).2, words_joinW (r :: rest) (fun x hx => h x (by simp [hx]))]
    rfl
theorem joinW_snoc : ∀ (ls : List (List UInt8)) (l : List UInt8), joinW (ls ++ [l]) = if ls = [] then l else joinW ls ++ 32 :: l
  | [], l => rfl
  | [a], l => rfl
  | a :: b :: r, l => by
    show a ++ 32 :: joinW ((b :: r) ++ [l]) = _
    rw [joinW_snoc (b :: r) l, if_neg (by simp), if_neg (by simp)]
    show a ++ 32 :: (joinW (b :: r) ++ 32 :: l) = (a ++ 32 :: joinW (b :: r)) ++ 32 :: l
    simp
/-- all words together are no longer than the text -/
theorem joinW_len : ∀ (n : Nat) (t : List UInt8), t.length ≤ n → (joinW (words t)).length ≤ t.length := by
  intro n
  induction n with
  | zero =>
    intro t h
    obtain rfl : t = [] := List.length_eq_zero_iff.1 (by omega)
    rw [words_empty]; simp [joinW]
  | succ n ih =>
    intro t h
    by_cases h0 : trim t = []
    · rw [words_nil h0]; simp [joinW]
    · have h1 := behindW_lt h0
      have h2 := ih (behindW t) (by omega)
      have h3 := trim_len t
      rw [words_cons h0]
      cases hw : words (behindW t) with
      | nil =>
        show (firstWord t).length ≤ _
        have := firstWord_le t
        omega
      | cons a r =>
        show (firstWord t ++ 32 :: joinW (a :: r)).length ≤ _
        rw [hw] at h2
        rw [List.length_append, List.length_cons]
        have h4 : (firstWord t).length + (behindW t).length + 1 ≤ (trim t).length := by
          cases hp : spAt (trim t) with
          | none =>
            have : behindW t = [] := by simp [behindW, hp]
            rw [this, words_empty] at hw; cases hw
          | some p =>
            obtain ⟨h5, h6, _⟩ := spAt_some hp
            have e1 : firstWord t = (trim t).take p.1 := by simp [firstWord, hp]
            have e2 : behindW t = (trim t).drop (p.1 + p.2) := by simp [behindW, hp]
            rw [e1, e2, List.length_take, List.length_drop]
            omega
        omega
theorem joinW_take_le : ∀ (k : Nat) (ls : List (List UInt8)), (joinW (ls.take k)).length ≤ (joinW ls).length
  | 0, ls => by simp [joinW]
  | k + 1, [] => by simp
  | k + 1, [l] => by simp
  | 1, l :: r :: rest => by
    show l.length ≤ (l ++ 32 :: joinW (r :: rest)).length
    simp
  | k + 2, l :: r :: rest => by
    show (l ++ 32 :: joinW ((r :: rest).take (k + 1))).length ≤ (l ++ 32 :: joinW (r :: rest)).length
    have := joinW_take_le (k + 1) (r :: rest)
    rw [List.length_append, List.length_append, List.length_cons, List.length_cons]
    omega
/-- one step at the end of the input: no word, or the first one -/
theorem stepW_none {t : List UInt8} (h : trim t = []) : splitWords () t true = ⟨(), (lead t : Int), none, 0⟩ := by
  simp [splitWords, h, spAt_nil]
theorem stepW_some {t : List UInt8} (h : trim t ≠ []) : ∃ adv : Nat, splitWords () t true = ⟨(), (adv : Int), some (firstWord t), 0⟩ ∧ 1 ≤ adv ∧ adv ≤ t.length ∧ t.drop adv = behindW t := by
  have h1 := trim_len t
  have h2 := lead_le t
  have h3 := List.length_pos_iff.2 h
  cases hp : spAt (trim t) with
  | some p =>
    obtain ⟨h5, h6, _⟩ := spAt_some hp
    refine ⟨lead t + p.1 + p.2, by simp [splitWords, hp, firstWord], by omega, by omega, ?_⟩
    have e : behindW t = (trim t).drop (p.1 + p.2) := by simp [behindW, hp]
    rw [e, trim, List.drop_drop, Nat.add_assoc]
  | none =>
    have he : (trim t).isEmpty = false := by cases hh : trim t with | nil => exact absurd hh h | cons _ _ => rfl
    exact ⟨t.length, by simp [splitWords, hp, firstWord, he], by omega, Nat.le_refl _, by simp [behindW, hp]⟩
theorem words_len0 {t : List UInt8} : (words t).length = 0 ↔ trim t = [] := by
  constructor
  · intro h
    by_cases h0 : trim t = []
    · exact h0
    · rw [words_cons h0] at h; simp at h
  · intro h; rw [words_nil h]; rfl
/-- spaces and a letter: one word -/
theorem words_letter {t : List UInt8} (h : trim t = []) : words (t ++ [97]) = [[97]] := by
  rw [← words_trim, ← trim_cut, h, List.nil_append, words_trim]
  refine words_self (by simp) ?_
  have hd : dec [97] = (97, 1) := dec_low (by decide)
  rw [spAt_word (by simp) (by rw [hd]; decide), hd]
  simp [spAt_nil]
theorem roomyW_mem {lim : Nat} {t u : List UInt8} (h : RoomyW lim t) (hu : ∀ l ∈ words u, l ∈ words t) : RoomyW lim u := ⟨h.1, fun l hl => h.2 l (hu l hl)⟩
end Go.Proofs.YtnoaljlbhihgjaaDoor
