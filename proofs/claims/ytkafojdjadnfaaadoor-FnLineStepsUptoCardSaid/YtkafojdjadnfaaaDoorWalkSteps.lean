/-
  The walk of FnLineSteps.
-/
import Derived.Test.YtkafojdjadnfaaaDoorWalkMore
namespace Go.Proofs.YtkafojdjadnfaaaDoor
set_option linter.unusedVariables false
set_option linter.unusedSimpArgs false
set_option maxRecDepth 20000
open Go.RowKit

/-- a text's length -/
def sizeS : Value → Nat | .string s => s.size | _ => 0
/-- one step at the end of the input, over what is left -/
theorem step_last {r : List UInt8} (h : r ≠ []) : ∃ adv : Nat, splitLines () r true = ⟨(), (adv : Int), some (firstLine r), 0⟩ ∧ 1 ≤ adv ∧ adv ≤ r.length ∧ r.drop adv = behind r := by
  have hpos := List.length_pos_iff.2 h
  cases hn : nlAt r with
  | some i =>
    have := (nlAt_some hn).2.2
    exact ⟨i + 1, by simp [splitLines, hn, firstLine], by omega, by omega, by simp [behind, hn]⟩
  | none =>
    have he : r.isEmpty = false := by cases r with | nil => exact absurd rfl h | cons _ _ => rfl
    exact ⟨r.length, by simp [splitLines, hn, firstLine, he], hpos, Nat.le_refl _, by simp [behind, hn]⟩
theorem loose_v (s : ByteArray) (w : World) (hs : s.size ≤ 9223372036854775807) (b : Bool) (h : looseB s.data.toList = b) : Calls Tryd.prog 26 #[.string s] w fun e w' => e = .returned (.bool b) ∧ w = w' := by
  subst h
  exact loose_any s w hs
theorem ext_list (s : ByteArray) (k : Nat) : (s.extract k s.size).data.toList = s.data.toList.drop k := by
  rw [ByteArray.data_extract, Array.toList_extract, List.extract_eq_take_drop]
  have : s.size = s.data.toList.length := by simp
  rw [this, List.take_of_length_le (by simp)]
theorem ne_bits (s : ByteArray) (h : s.data.toList ≠ []) : s.toList.isEmpty = false ∧ ¬ (s.toList = []) := by
  rw [ByteArray.toList_eq]
  exact ⟨by cases hh : s.data.toList with | nil => exact absurd hh h | cons _ _ => rfl, h⟩
theorem eq_bits (s : ByteArray) (h : s.data.toList = []) : s.toList.isEmpty = true ∧ s.toList = [] := by
  rw [ByteArray.toList_eq, h]
  exact ⟨rfl, rfl⟩

section
variable {w : World} {E : Nat → Addr} {s : ByteArray}
set_option maxHeartbeats 2000000 in
theorem fnLineSteps_walk (hE : EnvC w.heap.size w E) (hs : s.size ≤ 4194304) : Calls Tryd.prog 7 #[.string s] w (TrueB w) := by
  cases hl : looseB s.data.toList with
  | true =>
    have HL := Lib.hid (fun w' => loose_v s w' (by omega) true hl)
    clear hl hE
    go_enter Tryd.func7, Tryd.ntmps7
    go_wp2_with fail
    refine (HL.out _).mono ?_
    rintro e w2 ⟨rfl, rfl⟩
    go_wp2_with fail
    go_ret
    exact ⟨rfl, Below.refl _ _⟩
  | false =>
    obtain ⟨i0, hi, hz0, hz1, hz2⟩ := info_parts info_str
    have HL := Lib.hid (fun w' => loose_v s w' (by omega) false hl)
    have hlen : s.data.toList.length = s.size := by simp
    have hlast : s.data.toList.getLast? ≠ some 13 := fun h => by unfold looseB at hl; rw [h] at hl; simp at hl
    have HTl := Lib.hid (tokens_lines _ _ (Nat.le_refl _) hlast)
    have hcount := tokens_len s.data.toList
    rw [hlen] at hcount
    have HLen := Lib.hid hlen
    have HE := Lib.hid hE
    have HSp := Lib.hid (fun w' => specLinesG s w' hs)
    clear hl hE hlen hlast
    go_enter Tryd.func7, Tryd.ntmps7
    go_wp2_with fail
    refine (HL.out _).mono ?_
    rintro e w2 ⟨rfl, rfl⟩
    clear HL
    go_wp2_with fail
    go_loopw [3, 4] (fun v i wr => ∃ (r : ByteArray) (xs : List (List UInt8)), i = .string r ∧ r.size ≤ s.size ∧ Hid (tokens s.data.toList = xs ++ tokens r.data.toList) ∧ Hid (StrsAt w.heap.size wr v xs) ∧ Hid (Below w.heap.size w wr)) (fun _ i _ => sizeS i)
    case atStart => exact ⟨s, [], rfl, Nat.le_refl _, Lib.hid rfl, Lib.hid (World.ownsRow_made _ _ _ (Nat.le_refl _) (by decide) rfl), Lib.hid ((Below.refl _ _).alloc (Nat.le_refl _) _)⟩
    case round =>
      obtain ⟨r, xs, rfl, hr, HT, HO, HB⟩ := hrel
      by_cases hne : r.data.toList = []
      · have hts := HT.out
        rw [hne, tokens_nil, List.append_nil, HTl.out] at hts
        subst hts
        obtain ⟨hb1, hb2⟩ := eq_bits r hne
        clear HT HTl
        by_cases hse : s.data.toList = []
        · obtain ⟨hb3, hb4⟩ := eq_bits s hse
          have hI := fun w' (h : EnvC w.heap.size w' E) => implLines_any (s := nlB) h.e (by decide) (roomy_one (t := []) rfl (by simp))
          have e1 : tokens nlB.data.toList = [noCR []] := tokens_one (t := []) rfl
          rw [e1] at hI
          have HI := Lib.hid hI
          clear hI e1 hne hse
          generalize lines s.data.toList = ls at *
          generalize noCR [] = z at *
          go_wp2_with fail
          refine (HSp.out _).mono ?_
          rintro e w2 ⟨v', rfl, hst, hb⟩
          have HB2 := Lib.hid (below_step HB.out hb)
          have HS1 := Lib.hid (HO.out.strs.below hb)
          have HS2 := Lib.hid hst.strs
          clear hst hb
          go_wp2_with fail
          refine (same_yes _ _ _ _ HS1.out HS2.out).mono ?_
          rintro e w3 ⟨rfl, n, rfl⟩
          have HB3 := Lib.hid (below_drewN HB2.out n)
          clear HS1 HS2 HO HB HB2
          generalize w2.drewN n = w4 at *
          go_wp2_with fail
          refine (HI.out _ (HE.out.later HB3.out)).mono ?_
          rintro e w5 ⟨v5, rfl, hst, hb⟩
          obtain ⟨a, cap, rfl, h1, h2, h3⟩ := hst.strs
          clear hst h3
          go_wp2_with fail
          go_ret
          exact ⟨rfl, below_step HB3.out hb⟩
        · obtain ⟨hb3, hb4⟩ := ne_bits s hse
          clear hne hse HE
          generalize lines s.data.toList = ls at *
          go_wp2_with fail
          refine (HSp.out _).mono ?_
          rintro e w2 ⟨v', rfl, hst, hb⟩
          have HB2 := Lib.hid (below_step HB.out hb)
          have HS1 := Lib.hid (HO.out.strs.below hb)
          have HS2 := Lib.hid hst.strs
          clear hst hb
          go_wp2_with fail
          refine (same_yes _ _ _ _ HS1.out HS2.out).mono ?_
          rintro e w3 ⟨rfl, n, rfl⟩
          go_wp2_with fail
          go_ret
          exact ⟨rfl, below_drewN HB2.out n⟩
      · obtain ⟨adv, hst, ha1, ha2, ha3⟩ := step_last hne
        have hrl : r.data.toList.length = r.size := by simp
        rw [hrl] at ha2
        have hS := lineStep_any r true wr (by omega)
        rw [hst] at hS
        have HS := Lib.hid hS
        have ht2 := HT.out
        rw [tokens_cons hne, ← List.singleton_append, ← List.append_assoc, ← ha3, ← ext_list] at ht2
        have hcnt : xs.length + 1 ≤ (tokens s.data.toList).length := by rw [ht2]; simp
        have HT2 := Lib.hid ht2
        obtain ⟨hb1, hb2⟩ := ne_bits r hne
        have hes : (r.extract adv r.size).size = r.size - adv := by rw [ByteArray.size_extract]; omega
        have HC := Lib.hid hcnt
        clear hS hst ha3 ht2 hcnt HT hne hrl
        generalize firstLine r.data.toList = z at *
        go_wp2_with fail
        refine HS.out.mono ?_
        rintro e w1 ⟨rfl, hb⟩
        have HB1 := Lib.hid (below_step HB.out hb)
        have HO1 := Lib.hid (HO.out.below hb)
        clear hb HB HO HS
        simp only [tokText, Option.isSome_some] at *
        go_wp2_with (first
          | (at_builtin; refine wpList_append_own _ rfl _ _ 25 rfl w.heap.size 9 i0 (.string ⟨#[]⟩) 1 16 (by kernel_rfl) hi hz0 hz1 hz2 rfl (by decide) _ _ _ rfl (HO1.out.alloc _) ⟨w1.heap.size, 0, none⟩ 1 1 [sv z] rfl rfl ?c1 ?c2 ?c3 ?c4 ?c5 ?_)
          | go_in)
        case c1 =>
          intro j u hj
          match j, hj with
          | 0, hj => simp at hj; subst hj; simp [Addr.add]
        case c2 => intro u hu; simp at hu; subst hu; rfl
        case c3 => have := HC.out; unfold maxLen; omega
        case c4 => have := HC.out; omega
        case c5 => have := HB1.out.size; simp; omega
        · intro v' w2 hown' hgrow _
          have HN := Lib.hid (strs_push hown' (x := z) rfl)
          have HG' := Lib.hid (lines_below HB1.out HO1.out hgrow)
          clear hown' hgrow
          go_wp2_with fail
          go_roundw
          case rel => exact ⟨_, _, rfl, by omega, HT2, HN, HG'⟩
          case measure => simp [sizeS]; omega
end
end Go.Proofs.YtkafojdjadnfaaaDoor
