/-
  The walk of FnWordsOfLines.
-/
import Derived.Test.YtnoaljlbhihgjaaDoorTrueW
import Derived.Test.YtnoaljlbhihgjaaDoorWordFacts
import Derived.Test.YtnoaljlbhihgjaaDoorApp
namespace Go.Proofs.YtnoaljlbhihgjaaDoor
set_option linter.unusedVariables false
set_option linter.unusedSimpArgs false
set_option maxRecDepth 20000
open Go.RowKit

theorem sv_form2 (x : List UInt8) : ∃ q : ByteArray, sv x = .string q ∧ q.data.toList = x := ⟨⟨x.toArray⟩, rfl, by simp⟩
abbrev room2 : Obj := .cells #[.bool true, .int .i64 0, .int .i64 0] 26

/-- the words of the first lines -/
def upW (t : List UInt8) (k : Nat) : List (List UInt8) := ((lines t).take k).flatMap words
theorem upW_succ {t : List UInt8} {k : Nat} (h : k < (lines t).length) : upW t (k + 1) = upW t k ++ words (lines t)[k] := by
  unfold upW
  rw [List.take_succ_eq_append_getElem h, List.flatMap_append]; simp
theorem upW_all (t : List UInt8) : upW t (lines t).length = words t := by
  unfold upW
  rw [List.take_length]; exact words_lines _ t (Nat.le_refl _)
theorem upW_le (t : List UInt8) (k : Nat) : (upW t k).length ≤ (words t).length := by
  rw [← words_lines _ t (Nat.le_refl _)]
  unfold upW
  conv => rhs; rw [← List.take_append_drop k (lines t), List.flatMap_append, List.length_append]
  omega
theorem words_line {t l : List UInt8} (h : l ∈ lines t) : ∀ x ∈ words l, x ∈ words t := fun x hx => by
  rw [← words_lines _ t (Nat.le_refl _)]
  exact List.mem_flatMap.2 ⟨l, h, hx⟩

section
variable {w : World} {E : Nat → Addr} {s : ByteArray}

set_option maxHeartbeats 2000000 in
theorem fnWordsOfLines_t (hE : EnvT w.heap.size w E) (hs : s.size ≤ 4194304) (h1 : wordedB s.data.toList true 0 0 = true) (h2 : linedB s.data.toList true 0 0 = true) : Calls Tryd.prog 7 #[.string s] w (TrueB w) := by
  have HL := Lib.hid (fun w' => worded_t (s := s) w' hs true h1)
  have HL2 := Lib.hid (fun w' => lined_t (s := s) w' hs true h2)
  have r1 := (wordedB_of h1).2
  have hf := LinedF.of h2
  have HIL := Lib.hid (fun w' (h : EnvT w.heap.size w' E) => implLines_any (s := s) h.e hs hf.roomy)
  rw [hf.tokens] at HIL
  have HI := Lib.hid (fun w' (h : EnvT w.heap.size w' E) => implWords_any (s := s) h.e h.t hs r1)
  have hlen : s.data.toList.length = s.size := by simp
  have hIq : ∀ (q : ByteArray), q.data.toList ∈ lines s.data.toList → ∀ w' (h : EnvT w.heap.size w' E), Calls Tryd.prog 22 #[.string q] w' (GivesL (words q.data.toList) w') := by
    intro q hq w' h
    have h3 := lines_each _ hq
    have h4 : q.data.toList.length = q.size := by simp
    exact implWords_any (s := q) h.e h.t (by omega) (roomyW_mem r1 (words_line hq))
  have HIq := Lib.hid hIq
  have HSp := Lib.hid (fun w' => specWordsG s w' hs)
  have hxl := words_len _ s.data.toList (Nat.le_refl _)
  have hyl := lines_len s.data.toList
  rw [hlen] at hxl hyl
  have HE := Lib.hid hE
  clear h1 h2 hE r1 hf hIq hlen
  have hlen2 : (((words s.data.toList).length : Int) == ((words s.data.toList).length : Int)) = true := by simp
  go_enter Tryd.func7, Tryd.ntmps7
  go_wp2_with fail
  refine (HL.out _).mono ?_
  rintro e w1 ⟨rfl, hb⟩
  obtain ⟨hc, hf⟩ := bcell hb
  have HB := Lib.hid (below_step ((Below.refl _ _).alloc (Nat.le_refl _) _) hb)
  clear hb
  go_wp2_with fail
  refine (HL2.out _).mono ?_
  rintro e w2 ⟨rfl, hb⟩
  have HB2 := Lib.hid (below_step HB.out hb)
  clear hb HB hc hf HL HL2
  go_wp2_with fail
  have HB3 := Lib.hid (HB2.out.alloc HB2.out.size (.cells #[] 9))
  refine (HIL.out _ (HE.out.later HB3.out)).mono ?_
  rintro e w4 ⟨v4, rfl, hst, hb⟩
  have hO0 : StrsAt w.heap.size w4 (.slice (some ⟨w2.heap.size, 0, none⟩) 0 0) [] := StrsAt.below (World.ownsRow_made _ _ _ HB2.out.size (by decide) rfl) hb
  have hne0 : ∀ bb o k c, v4 = .slice (some ⟨bb, o, none⟩) k c → (Value.slice (some ⟨w2.heap.size, 0, none⟩) 0 0).ownBlock ≠ some bb := by
    intro bb o k c e6 e7
    have h6 := (World.ownsRow.lt hst bb (by rw [e6]; rfl)).1
    simp [Value.ownBlock] at e7 h6
    omega
  have HO0 := Lib.hid hO0
  have HNE := Lib.hid hne0
  have HB4 := Lib.hid (below_step HB3.out hb)
  have HV4 := Lib.hid hst.strs
  obtain ⟨a4, c4, rfl, hx1, hx2, hx3⟩ := hst.strs
  clear hst hb HB2 HB3 hO0 hne0 hx3
  go_wp2_with fail
  go_loopw [4, 22] (fun v i wr => ∃ k : Nat, k ≤ (lines s.data.toList).length ∧ i = .int .i64 k ∧ Hid (StrsAt w.heap.size wr v (upW s.data.toList k)) ∧ Hid (Below w.heap.size w wr) ∧ Hid (Strs wr (.slice a4 (lines s.data.toList).length c4) (lines s.data.toList)) ∧ Hid (∀ bb o k c, (Value.slice a4 (lines s.data.toList).length c4) = .slice (some ⟨bb, o, none⟩) k c → v.ownBlock ≠ some bb)) (fun _ i _ => (lines s.data.toList).length - (intOf i).toNat)
  case atStart => exact ⟨0, Nat.zero_le _, rfl, HO0, HB4, HV4, HNE⟩
  case round =>
    obtain ⟨k, hk, rfl, HO, HBr, HV, HN⟩ := hrel
    clear HO0 HB4 HV4 HNE
    by_cases hlt : k < (lines s.data.toList).length
    · obtain ⟨a', c', e', -, -, h3⟩ := HV.out
      obtain ⟨b, o, e3, hc⟩ := h3 k (lines s.data.toList)[k] (List.getElem?_eq_getElem hlt)
      simp only [Value.slice.injEq, true_and] at e'
      obtain ⟨rfl, rfl⟩ := e'
      subst e3
      obtain ⟨q, hq1, hq2⟩ := sv_form2 (lines s.data.toList)[k]
      rw [hq1] at hc
      have hup := upW_succ hlt
      rw [← hq2] at hup
      have hle := upW_le s.data.toList (k + 1)
      rw [hup, List.length_append] at hle
      have HC := Lib.hid hle
      have HQ := Lib.hid (HIq.out q (by rw [hq2]; exact List.getElem_mem hlt))
      have HUp := Lib.hid hup
      clear hup hle hq1 hq2 h3
      go_wp2_with fail
      refine (HQ.out _ (HE.out.later HBr.out)).mono ?_
      rintro e w5 ⟨v5, rfl, hst, hb⟩
      have HB5 := Lib.hid (below_step HBr.out hb)
      have HO5 := Lib.hid (HO.out.below hb)
      have HV5 := Lib.hid (HV.out.below hb)
      have HY5 := Lib.hid hst.strs
      have hlt5 : b < w5.heap.size := Nat.lt_of_lt_of_le (World.block_lt_of_cell? wr _ hc) hb.size
      clear hst hb HBr HO HV HQ
      have hnn : ((upW s.data.toList k).length + (words q.data.toList).length) * 16 ≤ 140737488355328 := by have := HC.out; omega
      have HNN := Lib.hid hnn
      clear hnn
      go_wp2_with (refine wpList_append_strs (by rfl) (.tmp 26) (.tmp 28) (by rfl) w.heap.size _ _ (upW s.data.toList k) (words q.data.toList) (by rfl) (by rfl) HO5.out HY5.out HNN.out HB5.out.size ?_)
      intro v7 w7 hst hgr hat
      have HB7 := Lib.hid (HB5.out.trans (grown_below HO5.out HB5.out.size hgr))
      have HV7 := Lib.hid (grown_strs HV5.out HN.out hgr)
      have hO7 : StrsAt w.heap.size w7 v7 (upW s.data.toList (k + 1)) := by rw [HUp.out]; exact hst
      have HO7 := Lib.hid hO7
      have hN7 : ∀ bb o' k' c', (Value.slice (some ⟨b, o, none⟩) (lines s.data.toList).length c4) = .slice (some ⟨bb, o', none⟩) k' c' → v7.ownBlock ≠ some bb := by
        intro bb o' k' c' e7
        rcases hat with h8 | h8
        · rw [h8]; exact HN.out bb o' k' c' e7
        · rw [h8]
          simp only [Value.slice.injEq, Option.some.injEq, Addr.mk.injEq] at e7
          obtain ⟨⟨rfl, -⟩, -⟩ := e7
          intro e9
          simp only [Option.some.injEq] at e9
          omega
      have HN7 := Lib.hid hN7
      clear hst hgr hat HB5 HO5 HY5 HV5 hO7 hN7 HN
      go_wp2_with fail
      go_roundw
      case rel => exact ⟨k + 1, by omega, by go_num, HO7, HB7, HV7, HN7⟩
      case measure => simp [intOf]; omega
    · obtain rfl : k = (lines s.data.toList).length := by omega
      have hO := HO.out
      rw [upW_all] at hO
      have HOf := Lib.hid hO
      obtain ⟨a8, c8, rfl, -, -, -⟩ := hO.strs
      clear HO hO HV HN HIq
      go_wp2_with fail
      refine (HI.out _ (HE.out.later HBr.out)).mono ?_
      rintro e w5 ⟨v5, rfl, hst, hb⟩
      have HB5 := Lib.hid (below_step HBr.out hb)
      have HO5 := Lib.hid (HOf.out.strs.below hb)
      have HY5 := Lib.hid hst.strs
      clear hst hb
      go_wp2_with fail
      refine (same_yes _ _ _ _ HO5.out HY5.out).mono ?_
      rintro e w6 ⟨rfl, n, rfl⟩
      have HB6 := Lib.hid (bel_drew HB5.out n)
      clear HO5 HY5 HB5
      generalize w5.drewN n = w6 at *
      go_wp2_with fail
      refine (HSp.out _).mono ?_
      rintro e w7 ⟨v7, rfl, hst, hb⟩
      obtain ⟨a9, c9, rfl, -, -, -⟩ := hst.strs
      clear hst
      go_wp2_with fail
      go_ret
      exact ⟨rfl, below_step HB6.out hb⟩

set_option maxHeartbeats 1000000 in
theorem fnWordsOfLines_walk (hE : EnvT w.heap.size w E) (hs : s.size ≤ 4194304) : Calls Tryd.prog 7 #[.string s] w (TrueB w) := by
  cases h1 : wordedB s.data.toList true 0 0 with
  | false =>
    have HL := Lib.hid (fun w' => worded_t (s := s) w' hs false h1)
    clear h1 hE
    go_enter Tryd.func7, Tryd.ntmps7
    go_wp2_with fail
    refine (HL.out _).mono ?_
    rintro e w1 ⟨rfl, hb⟩
    go_wp2_with fail
    go_ret
    exact ⟨rfl, below_step ((Below.refl _ _).alloc (Nat.le_refl _) _) hb⟩
  | true =>
    cases h2 : linedB s.data.toList true 0 0 with
    | false =>
      have HL := Lib.hid (fun w' => worded_t (s := s) w' hs true h1)
      have HL2 := Lib.hid (fun w' => lined_t (s := s) w' hs false h2)
      clear h1 h2 hE
      go_enter Tryd.func7, Tryd.ntmps7
      go_wp2_with fail
      refine (HL.out _).mono ?_
      rintro e w1 ⟨rfl, hb⟩
      obtain ⟨hc, hf⟩ := bcell hb
      have HB := Lib.hid (below_step ((Below.refl _ _).alloc (Nat.le_refl _) _) hb)
      clear hb
      go_wp2_with fail
      refine (HL2.out _).mono ?_
      rintro e w2 ⟨rfl, hb⟩
      clear hc hf
      go_wp2_with fail
      go_ret
      exact ⟨rfl, below_step HB.out hb⟩
    | true => exact fnWordsOfLines_t hE hs h1 h2
end
end Go.Proofs.YtnoaljlbhihgjaaDoor
