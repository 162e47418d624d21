/-
  A rule of the six spaces that leaves empty tokens out makes the words of a text of bytes below 128. No program in sight.
-/
import Derived.Test.YtkclapimgmnldaaDoorQQ
import Derived.Test.YtkclapimgmnldaaDoorQWordRuns
namespace Go.Proofs.YtkclapimgmnldaaDoor
set_option linter.unusedVariables false
set_option linter.unusedSimpArgs false
set_option maxRecDepth 20000

/-- the rule of the six spaces -/
def ruleSp : Rl := ⟨[false, false, false, false, false, false, false, false, false, true, true, true, true, true, false, false, false, false, false, false, false, false, false, false, false, false, false, false, false, false, false, false, true], false, true, -1, -1⟩
theorem ruleSp_brk {b : UInt8} (hb : b.toNat < 128) : ruleSp.brk b = spaceN b.toNat := by
  have h : ∀ n, n < 128 → ruleSp.brks.getD n false = spaceN n := by decide
  exact h _ hb
theorem sp_fail (b : UInt8) : ¬ (b.toNat : Int) = ruleSp.fail := by show ¬ (b.toNat : Int) = -1; omega
theorem sp_stop (b : UInt8) : ¬ (b.toNat : Int) = ruleSp.stop := by show ¬ (b.toNat : Int) = -1; omega
theorem dec_low {b : UInt8} {r : List UInt8} (hb : b.toNat < 128) : dec (b :: r) = (b.toNat, 1) := by
  unfold dec
  have : byt (b :: r) 0 = b.toNat := by simp [byt]
  rw [this]
  exact decodeN_low _ _ _ _ _ hb
theorem toks_words : ∀ (l cur : List UInt8), (∀ b ∈ l, b.toNat < 128) → toksR ruleSp cur l = (wordsFrom cur l, false) := by
  intro l
  induction l with
  | nil =>
    intro cur h
    rw [wordsFrom_nil]
    simp only [toksR]
  | cons b r ih =>
    intro cur h
    have hb := h b (by simp)
    have hr : ∀ x ∈ r, x.toNat < 128 := fun x hx => h x (List.mem_cons_of_mem _ hx)
    have hd := dec_low (r := r) hb
    simp only [toksR]
    rw [if_neg (sp_fail b), if_neg (sp_stop b), ruleSp_brk hb]
    cases hs : spaceN b.toNat with
    | false =>
      rw [if_pos rfl, wordsFrom_word cur (by simp) (by rw [hd]; exact hs), hd]
      simp only [List.take_succ_cons, List.take_zero, List.drop_succ_cons, List.drop_zero]
      exact ih _ hr
    | true =>
      rw [if_neg (by simp), wordsFrom_space cur (by simp) (by rw [hd]; exact hs), hd]
      simp only [List.drop_succ_cons, List.drop_zero]
      by_cases hc : cur = []
      · rw [if_pos ⟨hc, rfl⟩, if_pos hc, ih [] hr]
        rfl
      · rw [if_neg (fun h => hc h.1), if_neg (by simp [ruleSp]), if_neg hc, ih [] hr]
        rfl
theorem fits_words {lim : Nat} (hl : 0 < lim) : ∀ (l cur : List UInt8), (∀ b ∈ l, b.toNat < 128) → (∀ x ∈ wordsFrom cur l, x.length + 4 < lim) → fitsR ruleSp lim cur l := by
  intro l
  induction l with
  | nil =>
    intro cur _ h
    rw [wordsFrom_nil] at h
    simp only [fitsR]
    by_cases hc : cur = []
    · rw [hc]; exact hl
    · rw [if_neg hc] at h
      have := h cur (by simp)
      omega
  | cons b r ih =>
    intro cur h hw
    have hb := h b (by simp)
    have hr : ∀ x ∈ r, x.toNat < 128 := fun x hx => h x (List.mem_cons_of_mem _ hx)
    have hd := dec_low (r := r) hb
    simp only [fitsR]
    rw [if_neg (sp_fail b), if_neg (sp_stop b), ruleSp_brk hb]
    cases hs : spaceN b.toNat with
    | false =>
      rw [wordsFrom_word cur (by simp) (by rw [hd]; exact hs), hd] at hw
      simp only [List.take_succ_cons, List.take_zero, List.drop_succ_cons, List.drop_zero] at hw
      rw [if_pos rfl]
      exact ih _ hr hw
    | true =>
      rw [wordsFrom_space cur (by simp) (by rw [hd]; exact hs), hd] at hw
      simp only [List.drop_succ_cons, List.drop_zero] at hw
      rw [if_neg (by simp)]
      by_cases hc : cur = []
      · rw [if_pos ⟨hc, rfl⟩]
        exact ih [] hr (fun x hx => hw x (List.mem_append_right _ hx))
      · rw [if_neg (fun h => hc h.1)]
        rw [if_neg hc] at hw
        have h1 := hw cur (by simp)
        exact ⟨by omega, ih [] hr (fun x hx => hw x (List.mem_append_right _ hx))⟩
theorem words_ruled {t : List UInt8} (h : ∀ b ∈ t, b.toNat < 128) : toksR ruleSp [] t = (words t, false) := toks_words t [] h
theorem fits_roomyW {lim : Nat} {t : List UInt8} (h : ∀ b ∈ t, b.toNat < 128) (hw : RoomyW lim t) : fitsR ruleSp lim [] t := fits_words (by have := hw.1; omega) t [] h hw.2
end Go.Proofs.YtkclapimgmnldaaDoor
