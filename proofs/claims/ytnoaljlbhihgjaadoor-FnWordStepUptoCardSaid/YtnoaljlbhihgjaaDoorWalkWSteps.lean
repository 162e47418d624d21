/-
  The walks of FnWordSteps and FnWordStep.
-/
import Derived.Test.YtnoaljlbhihgjaaDoorStepW
import Derived.Test.YtnoaljlbhihgjaaDoorTrueW
import Derived.Test.YtnoaljlbhihgjaaDoorWordFacts
namespace Go.Proofs.YtnoaljlbhihgjaaDoor
set_option linter.unusedVariables false
set_option linter.unusedSimpArgs false
set_option maxRecDepth 20000
open Go.RowKit

/-- a text's length -/
def sizeS : Value → Nat | .string s => s.size | _ => 0
theorem ext_list (s : ByteArray) (k : Nat) : (s.extract k s.size).data.toList = s.data.toList.drop k := by
  rw [ByteArray.data_extract, Array.toList_extract, List.extract_eq_take_drop]
  have : s.size = s.data.toList.length := by simp
  rw [this, List.take_of_length_le (by simp)]
abbrev aB : ByteArray := ⟨#[97]⟩
theorem ba_a (a : ByteArray) : (a ++ aB).data.toList = a.data.toList ++ [97] := by rw [ByteArray.data_append]; simp
theorem size_a (a : ByteArray) : (a ++ aB).size = a.size + 1 := by rw [ByteArray.size_append]; rfl
theorem roomy_letter {t : List UInt8} (h : trim t = []) : RoomyW 65536 (t ++ [97]) := ⟨by omega, fun l hl => by rw [words_letter h] at hl; simp at hl; subst hl; simp⟩

section
variable {w : World} {E : Nat → Addr} {s : ByteArray}
set_option maxHeartbeats 2000000 in
theorem fnWordSteps_walk (hE : EnvW w.heap.size w E) (hs : s.size ≤ 4194304) : Calls Tryd.prog 12 #[.string s] w (TrueB w) := by
  obtain ⟨i0, hi, hz0, hz1, hz2⟩ := info_parts info_str
  have hlen : s.data.toList.length = s.size := by simp
  have hcount := words_len _ s.data.toList (Nat.le_refl _)
  rw [hlen] at hcount
  have HE := Lib.hid hE
  have HSp := Lib.hid (fun w' => specWordsG s w' hs)
  have hI := fun w' (h : EnvW w.heap.size w' E) => implWords_any (s := aB) h.c.e h.t (by decide) (roomy_letter (t := []) trim_nil)
  have e1 : words aB.data.toList = [[97]] := words_letter (t := []) trim_nil
  rw [e1] at hI
  have HI := Lib.hid hI
  clear hE hlen hI e1
  go_enter Tryd.func12, Tryd.ntmps12
  go_wp2_with fail
  go_loopw [3, 4] (fun v i wr => ∃ (r : ByteArray) (xs : List (List UInt8)), i = .string r ∧ r.size ≤ s.size ∧ Hid (words s.data.toList = xs ++ words r.data.toList) ∧ Hid (StrsAt w.heap.size wr v xs) ∧ Hid (Below w.heap.size w wr)) (fun _ i _ => sizeS i)
  case atStart => exact ⟨s, [], rfl, Nat.le_refl _, Lib.hid rfl, Lib.hid (World.ownsRow_made _ _ _ (Nat.le_refl _) (by decide) rfl), Lib.hid ((Below.refl _ _).alloc (Nat.le_refl _) _)⟩
  case round =>
    obtain ⟨r, xs, rfl, hr, HT, HO, HB⟩ := hrel
    have HSr := Lib.hid (fun w' => specWordsG r w' (by omega))
    by_cases h0 : trim r.data.toList = []
    · have hts := HT.out
      rw [words_nil h0] at HSr hts
      rw [List.append_nil] at hts
      subst hts
      clear HT
      generalize words s.data.toList = ls at *
      go_wp2_with fail
      refine (HSr.out _).mono ?_
      rintro e w1 ⟨v1, rfl, hst1, hb1⟩
      have HB1 := Lib.hid (below_step HB.out hb1)
      have HO1 := Lib.hid (HO.out.below hb1)
      obtain ⟨a1, cap1, rfl, -, -, -⟩ := hst1.strs
      clear hst1 hb1 HB HO HSr
      go_wp2_with fail
      refine (HSp.out _).mono ?_
      rintro e w2 ⟨v', rfl, hst, hb⟩
      have HB2 := Lib.hid (below_step HB1.out hb)
      have HS1 := Lib.hid (HO1.out.strs.below hb)
      have HS2 := Lib.hid hst.strs
      clear hst hb
      go_wp2_with fail
      refine (same_yes _ _ _ _ HS1.out HS2.out).mono ?_
      rintro e w3 ⟨rfl, n, rfl⟩
      have HB3 := Lib.hid (bel_drew HB2.out n)
      clear HS1 HS2 HO1 HB1 HB2
      generalize w2.drewN n = w4 at *
      go_wp2_with fail
      refine (HI.out _ (HE.out.later HB3.out)).mono ?_
      rintro e w5 ⟨v5, rfl, hst, hb⟩
      obtain ⟨a, cap, rfl, h1, h2, h3⟩ := hst.strs
      clear hst h3
      go_wp2_with fail
      go_ret
      exact ⟨rfl, below_step HB3.out hb⟩
    · obtain ⟨adv, hst, ha1, ha2, ha3⟩ := stepW_some h0
      have hrl : r.data.toList.length = r.size := by simp
      rw [hrl] at ha2
      have hS := fun w' (h : Tabs w') => wordStep_any r w' h (by omega)
      rw [hst] at hS
      have HS := Lib.hid hS
      have ht2 := HT.out
      rw [words_cons h0, ← List.singleton_append, ← List.append_assoc, ← ha3, ← ext_list] at ht2
      have hcnt : xs.length + 1 ≤ (words s.data.toList).length := by rw [ht2]; simp
      have hposr : 0 < (words r.data.toList).length := by rw [words_cons h0]; simp
      have HT2 := Lib.hid ht2
      have hes : (r.extract adv r.size).size = r.size - adv := by rw [ByteArray.size_extract]; omega
      have HC := Lib.hid hcnt
      clear hS hst ha3 ht2 hcnt HT h0 hrl
      generalize words r.data.toList = rs at *
      generalize firstWord r.data.toList = z at *
      go_wp2_with fail
      refine (HSr.out _).mono ?_
      rintro e w0 ⟨v0, rfl, hst0, hb0⟩
      have HB0 := Lib.hid (below_step HB.out hb0)
      have HO0 := Lib.hid (HO.out.below hb0)
      obtain ⟨a1, cap1, rfl, -, -, -⟩ := hst0.strs
      clear hst0 hb0 HB HO HSr
      go_wp2_with fail
      refine (HS.out _ (HE.out.later HB0.out).t.t).mono ?_
      rintro e w1 ⟨rfl, hb⟩
      have HB1 := Lib.hid (below_step HB0.out hb)
      have HO1 := Lib.hid (HO0.out.below hb)
      clear hb HB0 HO0 HS
      simp only [tokText, Option.isSome_some] at *
      go_wp2_with (first
        | (at_builtin; refine wpList_append_own _ rfl _ _ 36 rfl w.heap.size 9 i0 (.string ⟨#[]⟩) 1 16 (by kernel_rfl) hi hz0 hz1 hz2 rfl (by decide) _ _ _ rfl (HO1.out.alloc _) ⟨w1.heap.size, 0, none⟩ 1 1 [sv z] rfl rfl ?c1 ?c2 ?c3 ?c4 ?c5 ?_)
        | go_in)
      case c1 =>
        intro j u hj
        match j, hj with
        | 0, hj => simp at hj; subst hj; simp [Addr.add]
      case c2 => intro u hu; simp at hu; subst hu; rfl
      case c3 => have := HC.out; unfold maxLen; omega
      case c4 => have := HC.out; omega
      case c5 => have := HB1.out.size; simp; omega
      · intro v' w2 hown' hgrow _
        have HN := Lib.hid (strs_push hown' (x := z) rfl)
        have HG' := Lib.hid (lines_below HB1.out HO1.out hgrow)
        clear hown' hgrow
        go_wp2_with fail
        go_roundw
        case rel => exact ⟨_, _, rfl, by omega, HT2, HN, HG'⟩
        case measure => simp [sizeS]; omega

theorem Strs.rest1 {w : World} {b o n cap : Nat} {xs : List (List UInt8)} (h : Strs w (.slice (some ⟨b, o, none⟩) n cap) xs) (hk : 1 ≤ n) : Strs w (.slice (some ⟨b, o + 1, none⟩) (n - 1) (cap - 1)) (xs.drop 1) := by
  obtain ⟨a', cap', e, h1, h2, h3⟩ := h
  simp only [Value.slice.injEq] at e
  obtain ⟨rfl, rfl, rfl⟩ := e
  refine ⟨_, _, by rw [List.length_drop], by rw [List.length_drop]; omega, by omega, fun i x hx => ?_⟩
  rw [List.getElem?_drop] at hx
  obtain ⟨b', o', e, hc⟩ := h3 (1 + i) x hx
  simp only [Option.some.injEq, Addr.mk.injEq, and_true] at e
  obtain ⟨rfl, rfl⟩ := e
  exact ⟨b, o + 1, rfl, by rw [Nat.add_assoc]; exact hc⟩
theorem strs_nil1 (w : World) (a : Option Addr) (c : Nat) (hc : c ≤ 9223372036854775807) : Strs w (.slice a 0 c) [] := ⟨a, c, rfl, Nat.zero_le _, hc, fun i x hx => by simp at hx⟩

set_option maxRecDepth 100000 in
set_option maxHeartbeats 2000000 in
theorem fnWordStep_walk (hE : EnvW w.heap.size w E) (hs : s.size ≤ 4194303) : Calls Tryd.prog 11 #[.string s] w (TrueB w) := by
  have hlen : s.data.toList.length = s.size := by simp
  have HSp := Lib.hid (fun w' => specWordsG s w' (by omega))
  have hW := wordStep_any s w hE.t.t (by omega)
  by_cases h0 : trim s.data.toList = []
  · rw [stepW_none h0] at hW
    have HW := Lib.hid hW
    rw [words_nil h0] at HSp
    have hI := fun w' (h : EnvW w.heap.size w' E) => implWords_any (s := s ++ aB) h.c.e h.t (by rw [size_a]; omega) (by rw [ba_a]; exact roomy_letter h0)
    rw [ba_a, words_letter h0] at hI
    have HI := Lib.hid hI
    have HE := Lib.hid hE
    have hll := lead_le s.data.toList
    rw [hlen] at hll
    clear hI hE hW h0 hlen
    generalize lead s.data.toList = ld at *
    go_enter Tryd.func11, Tryd.ntmps11
    go_wp2_with fail
    refine HW.out.mono ?_
    rintro e w1 ⟨rfl, hb1⟩
    have HB1 := Lib.hid hb1
    clear hb1 HW
    simp only [tokText, Option.isSome_none] at *
    go_wp2_with fail
    refine (HSp.out _).mono ?_
    rintro e w2 ⟨v2, rfl, hst, hb⟩
    have HB2 := Lib.hid (below_step HB1.out hb)
    obtain ⟨a2, c2, rfl, -, -, -⟩ := hst.strs
    clear hst hb
    go_wp2_with fail
    refine (HI.out _ (HE.out.later HB2.out)).mono ?_
    rintro e w3 ⟨v3, rfl, hst, hb⟩
    obtain ⟨a3, c3, rfl, -, -, -⟩ := hst.strs
    clear hst
    go_wp2_with fail
    go_ret
    exact ⟨rfl, below_step HB2.out hb⟩
  · obtain ⟨adv, hst, ha1, ha2, ha3⟩ := stepW_some h0
    rw [hst] at hW
    rw [hlen] at ha2
    have HW := Lib.hid hW
    have hes : (s.extract adv s.size).size = s.size - adv := by rw [ByteArray.size_extract]; omega
    have hSr := fun w' => specWordsG (s.extract adv s.size) w' (by omega)
    rw [ext_list, ha3] at hSr
    have HSr := Lib.hid hSr
    rw [words_cons h0] at HSp
    have hwl := words_len _ s.data.toList (Nat.le_refl _)
    rw [words_cons h0, hlen, List.length_cons] at hwl
    clear hSr hE hW h0 hlen hst ha3
    generalize firstWord s.data.toList = z at *
    generalize words (behindW s.data.toList) = zs at *
    have hz : (z == z) = true := by simp
    go_enter Tryd.func11, Tryd.ntmps11
    go_wp2_with fail
    refine HW.out.mono ?_
    rintro e w1 ⟨rfl, hb1⟩
    have HB1 := Lib.hid hb1
    clear hb1 HW
    simp only [tokText, Option.isSome_some] at *
    go_wp2_with fail
    refine (HSp.out _).mono ?_
    rintro e w2 ⟨v2, rfl, hst2, hb⟩
    have HB2 := Lib.hid (below_step HB1.out hb)
    have HST := Lib.hid hst2.strs
    obtain ⟨a2, cap, rfl, hx1, hx2, hx3⟩ := hst2.strs
    obtain ⟨g, o, rfl, hcell⟩ := hx3 0 z rfl
    rw [Nat.add_zero] at hcell
    clear hst2 hb hx3 HSp HB1
    rw [List.length_cons] at hx1
    have hgl := World.block_lt_of_cell? w2 _ hcell
    by_cases hcap : cap = 1
    · subst hcap
      obtain rfl : zs = [] := List.length_eq_zero_iff.1 (by omega)
      go_wp2_with fail
      go_region_held3 (fun w' => w'.cell? ⟨g, o, none⟩ = some (sv z))
        (first | exact KC.out | go_keep)
        (first
          | (go_at_call 21; refine (HSr.out _).mono ?_; rintro e w4 ⟨v4, rfl, hst4, hb4⟩; have HB4 := Lib.hid (below_step HB2.out.drew hb4); have HST4 := Lib.hid hst4.strs; have HST5 := Lib.hid (HST.out.drew.below hb4); have KC := Lib.hid ((hb4.cell (p := ⟨g, o, none⟩) hgl).trans hcell); clear hst4 hb4)
          | (go_at_call 19; refine (same_yes _ _ _ _ HST4.out (strs_nil1 _ _ _ (by omega))).mono ?_; rintro e w5 ⟨rfl, q, rfl⟩))
      all_goals
        go_wp2_with fail
        go_ret
        exact ⟨rfl, bel_drew HB4.out _⟩
    · have hcap2 : ¬ (1 = cap) := fun h => hcap h.symm
      have hq1 : (1 : Int) ≤ ((zs.length : Int) + 1) := by omega
      have hq2 : (0 : Int) ≤ (zs.length : Int) := by omega
      have hq3 : (1 : Int) ≤ ((zs.length + 1 : Nat) : Int) := by omega
      have hq4 : (1 : Int) ≤ (((z :: zs).length : Nat) : Int) := by simp; omega
      go_wp2_with fail
      go_region_held3 (fun w' => w'.cell? ⟨g, o, none⟩ = some (sv z))
        (first | exact KC.out | go_keep)
        (first
          | (go_at_call 21; refine (HSr.out _).mono ?_; rintro e w4 ⟨v4, rfl, hst4, hb4⟩; have HB4 := Lib.hid (below_step HB2.out.drew hb4); have HST4 := Lib.hid hst4.strs; have HST5 := Lib.hid (HST.out.drew.below hb4); have KC := Lib.hid ((hb4.cell (p := ⟨g, o, none⟩) hgl).trans hcell); clear hst4 hb4)
          | (go_at_call 19; refine (same_yes _ _ _ _ HST4.out (by have := Strs.rest1 HST5.out (by simp); simpa using this)).mono ?_; rintro e w5 ⟨rfl, q, rfl⟩))
      all_goals
        go_wp2_with fail
        go_ret
        exact ⟨rfl, bel_drew HB4.out _⟩
end
end Go.Proofs.YtnoaljlbhihgjaaDoor
