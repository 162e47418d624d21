/-
  The walk of FnWordsPlain.
-/
import Derived.Test.YtnoaljlbhihgjaaDoorTrueW
import Derived.Test.YtnoaljlbhihgjaaDoorWordFacts
namespace Go.Proofs.YtnoaljlbhihgjaaDoor
set_option linter.unusedVariables false
set_option linter.unusedSimpArgs false
set_option maxRecDepth 20000
open Go.RowKit

theorem spAt_none_head {d : List UInt8} (h : spAt d = none) (hd : d ≠ []) : spaceN (dec d).1 = false ∧ spAt (d.drop (dec d).2) = none := by
  cases hs : spaceN (dec d).1 with
  | true => rw [spAt_space hd hs] at h; cases h
  | false =>
    rw [spAt_word hd hs] at h
    exact ⟨rfl, by simpa using h⟩

set_option maxHeartbeats 1000000 in
theorem hasSpace_no (s : ByteArray) (w : World) (hs : s.size ≤ 140737488355328) (h : spAt s.data.toList = none) : Calls Tryd.prog 23 #[.string s] w fun e w' => e = .returned (.bool false) ∧ w = w' := by
  have hlen : s.data.toList.length = s.size := by simp
  have HLen := Lib.hid hlen
  have HDec := Lib.hid (fun p w hp => specDecode_any s p w hp (by omega))
  have HSp := Lib.hid specSpace_any
  have H0 := Lib.hid h
  clear hlen h
  go_enter Tryd.func23, Tryd.ntmps23
  go_wp2_with fail
  go_loopw [3] (fun i wr => w = wr ∧ ∃ k : Nat, k ≤ s.size ∧ i = .int .i64 k ∧ Hid (spAt (s.data.toList.drop k) = none)) (fun i _ => s.size - (intOf i).toNat)
  case atStart => exact ⟨rfl, 0, Nat.zero_le _, rfl, H0⟩
  case round =>
    obtain ⟨rfl, k, hk, rfl, hn⟩ := hrel
    by_cases hlt : k < s.size
    · have hne : s.data.toList.drop k ≠ [] := drop_ne (by rw [HLen.out]; exact hlt)
      obtain ⟨h1, h2⟩ := spAt_none_head hn.out hne
      rw [List.drop_drop] at h2
      have HDk := Lib.hid (fun w => HDec.out k w hlt)
      have HSk := Lib.hid (fun w => HSp.out (dec (s.data.toList.drop k)).1 w)
      rw [h1] at HSk
      have hpos := dec_pos (s.data.toList.drop k)
      have hle := WI.le (t := s.data.toList) (k := k) (by rw [HLen.out]; exact hlt)
      rw [HLen.out] at hle
      have HN := Lib.hid h2
      clear h1 h2 hn hne H0
      generalize dec (s.data.toList.drop k) = rk at *
      obtain ⟨r, m⟩ := rk
      go_wp2_with fail
      refine (HDk.out _).mono ?_
      rintro e w2 ⟨rfl, rfl⟩
      go_wp2_with fail
      refine (HSk.out _).mono ?_
      rintro e w3 ⟨rfl, rfl⟩
      go_wp2_with fail
      go_roundw
      case rel => exact ⟨trivial, k + m, hle, by go_num, HN⟩
      case measure => simp [intOf]; omega
    · obtain rfl : k = s.size := by omega
      go_wp2_with fail
      go_ret
      exact ⟨rfl, rfl⟩

theorem sv_form (x : List UInt8) : ∃ q : ByteArray, sv x = .string q ∧ q.data.toList = x := ⟨⟨x.toArray⟩, rfl, by simp⟩
theorem ne_bits2 (s : ByteArray) (h : s.data.toList ≠ []) : s.toList.isEmpty = false ∧ (s.toList = []) = False := by
  rw [ByteArray.toList_eq]
  exact ⟨by cases hh : s.data.toList with | nil => exact absurd hh h | cons _ _ => rfl, by simp only [eq_iff_iff, iff_false]; exact h⟩

section
variable {w : World} {E : Nat → Addr} {s : ByteArray}
set_option maxHeartbeats 2000000 in
theorem fnWordsPlain_t (hE : EnvT w.heap.size w E) (hs : s.size ≤ 4194304) (hl : wordedB s.data.toList true 0 0 = true) : Calls Tryd.prog 6 #[.string s] w (TrueB w) := by
  have HL := Lib.hid (fun w' => worded_t w' hs true hl)
  have hf := (wordedB_of hl).2
  have hlen : s.data.toList.length = s.size := by simp
  have HI := Lib.hid (fun w' (h : EnvT w.heap.size w' E) => implWords_any (s := s) h.e h.t hs hf)
  have hpl := words_plain _ s.data.toList (Nat.le_refl _)
  have hjl := joinW_len _ s.data.toList (Nat.le_refl _)
  rw [hlen] at hjl
  have hI2 : ∀ (g : ByteArray), g.data.toList = joinW (words s.data.toList) → ∀ w' (h : EnvT w.heap.size w' E), Calls Tryd.prog 22 #[.string g] w' (GivesL (words s.data.toList) w') := by
    intro g hg w' h
    have e := words_joinW _ hpl
    have hsz : g.size ≤ 4194304 := by
      have : g.data.toList.length = g.size := by simp
      rw [← this, hg]; omega
    have := implWords_any (s := g) h.e h.t hsz (by rw [hg]; exact ⟨hf.1, fun l hl => by rw [e] at hl; exact hf.2 l hl⟩)
    rw [hg, e] at this
    exact this
  have HI2 := Lib.hid hI2
  have HPl := Lib.hid hpl
  have hsm := words_small _ s.data.toList (Nat.le_refl _)
  rw [hlen] at hsm
  have HSm := Lib.hid hsm
  have HE := Lib.hid hE
  have HSp := Lib.hid (fun w' => specWordsG s w' hs)
  have hcount := words_len _ s.data.toList (Nat.le_refl _)
  rw [hlen] at hcount
  have HJL : Hid (∀ k, (joinW ((words s.data.toList).take k)).length ≤ s.size) := Lib.hid (fun k => Nat.le_trans (joinW_take_le k _) hjl)
  clear hE hlen hl hf hI2 hpl hsm hjl
  generalize words s.data.toList = ls at *
  go_enter Tryd.func6, Tryd.ntmps6
  go_wp2_with fail
  refine (HL.out _).mono ?_
  rintro e w1 ⟨rfl, hb1⟩
  have HB1 := Lib.hid hb1
  clear hb1
  go_wp2_with fail
  refine (HI.out _ (HE.out.later HB1.out)).mono ?_
  rintro e w2 ⟨v2, rfl, hst, hb⟩
  have HB2 := Lib.hid (below_step HB1.out hb)
  have HST := Lib.hid hst.strs
  obtain ⟨a2, cap2, rfl, hx1, hx2, hx3⟩ := hst.strs
  have HX3 := Lib.hid hx3
  clear hst hb hx3 HB1
  have hlen2 : ((ls.length : Int) == (ls.length : Int)) = true := by simp
  go_wp2_with fail
  go_loopw [4, 15] (fun g i wr => wr = w2 ∧ ∃ (k : Nat) (q : ByteArray), k ≤ ls.length ∧ i = .int .i64 k ∧ g = .string q ∧ Hid (q.data.toList = joinW (ls.take k))) (fun _ i _ => ls.length - (intOf i).toNat)
  case atStart => exact ⟨rfl, 0, ⟨#[]⟩, Nat.zero_le _, rfl, rfl, Lib.hid rfl⟩
  case round =>
    obtain ⟨rfl, k, g, hk, rfl, rfl, hg⟩ := hrel
    have hgs : g.size ≤ s.size := by
      have h1 : g.data.toList.length = g.size := by simp
      rw [← h1, hg.out]; exact HJL.out k
    by_cases hlt : k < ls.length
    · obtain ⟨b, o, rfl, hc⟩ := HX3.out k ls[k] (List.getElem?_eq_getElem hlt)
      have hm := List.getElem_mem hlt
      obtain ⟨hp1, hp2⟩ := HPl.out _ hm
      have hp3 := HSm.out _ hm
      have hj : joinW (ls.take (k + 1)) = if ls.take k = [] then ls[k] else joinW (ls.take k) ++ 32 :: ls[k] := by
        rw [List.take_succ_eq_append_getElem hlt]; exact joinW_snoc _ _
      obtain ⟨q, hq1, hq2⟩ := sv_form ls[k]
      rw [hq1] at hc
      rw [← hq2] at hp1 hp2 hp3 hj
      have hqs : q.data.toList.length = q.size := by simp
      rw [hqs] at hp3
      obtain ⟨hb1, hb2⟩ := ne_bits2 q hp1
      have HHas := Lib.hid (fun w => hasSpace_no q w (by omega) hp2)
      by_cases hk0 : k = 0
      · subst hk0
        rw [if_pos (by simp)] at hj
        rw [Nat.add_zero] at hc
        have HNew : Hid ((g ++ q).data.toList = joinW (ls.take (0 + 1))) := Lib.hid (by
          rw [ByteArray.data_append, hj]
          have := hg.out
          simp only [List.take_zero, joinW] at this
          simp [this])
        clear hj hp1 hp2 hq1 hq2 hm hg
        go_wp2_with fail
        refine (HHas.out _).mono ?_
        rintro e w3 ⟨rfl, rfl⟩
        go_wp2_with fail
        go_roundw
        case rel => exact ⟨trivial, 0 + 1, _, by omega, by go_num, rfl, HNew⟩
        case measure => simp [intOf]; omega
      · have htk : ¬ ls.take k = [] := fun e => by have := congrArg List.length e; rw [List.length_take, List.length_nil] at this; omega
        rw [if_neg htk] at hj
        have HNew : Hid ((g ++ ⟨#[32]⟩ ++ q).data.toList = joinW (ls.take (k + 1))) := Lib.hid (by
          rw [ByteArray.data_append, ByteArray.data_append, hj, ← hg.out]; simp)
        have hkp : (0 : Int) < (k : Int) := by omega
        clear hj hp1 hp2 hq1 hq2 hm hg htk
        go_wp2_with fail
        refine (HHas.out _).mono ?_
        rintro e w3 ⟨rfl, rfl⟩
        go_wp2_with fail
        go_roundw
        case rel => exact ⟨trivial, k + 1, _, by omega, by go_num, rfl, HNew⟩
        case measure => simp [intOf]; omega
    · obtain rfl : k = ls.length := by omega
      have HG := Lib.hid (HI2.out g (by rw [hg.out, List.take_length]))
      clear hg HI2
      go_wp2_with fail
      refine (HSp.out _).mono ?_
      rintro e w3 ⟨v3, rfl, hst, hb⟩
      have HB3 := Lib.hid (below_step HB2.out hb)
      have HST3 := Lib.hid (HST.out.below hb)
      obtain ⟨a3, cap3, rfl, -, -, -⟩ := hst.strs
      clear hst hb
      go_wp2_with fail
      refine (HG.out _ (HE.out.later HB3.out)).mono ?_
      rintro e w4 ⟨v4, rfl, hst, hb⟩
      have HB4 := Lib.hid (below_step HB3.out hb)
      have HST4 := Lib.hid (HST3.out.below hb)
      have HV4 := Lib.hid hst.strs
      clear hst hb
      go_wp2_with fail
      refine (same_yes _ _ _ _ HV4.out HST4.out).mono ?_
      rintro e w5 ⟨rfl, n, rfl⟩
      go_wp2_with fail
      go_ret
      exact ⟨rfl, bel_drew HB4.out n⟩

set_option maxHeartbeats 400000 in
theorem fnWordsPlain_walk (hE : EnvT w.heap.size w E) (hs : s.size ≤ 4194304) : Calls Tryd.prog 6 #[.string s] w (TrueB w) := by
  cases hl : wordedB s.data.toList true 0 0 with
  | false =>
    have HL := Lib.hid (fun w' => worded_t w' hs false hl)
    clear hl hE
    go_enter Tryd.func6, Tryd.ntmps6
    go_wp2_with fail
    refine (HL.out _).mono ?_
    rintro e w1 ⟨rfl, hb⟩
    go_wp2_with fail
    go_ret
    exact ⟨rfl, hb⟩
  | true => exact fnWordsPlain_t hE hs hl
end
end Go.Proofs.YtnoaljlbhihgjaaDoor
