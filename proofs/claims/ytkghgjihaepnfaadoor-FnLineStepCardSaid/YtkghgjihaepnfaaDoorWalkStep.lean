/-
  The walk of FnLineStep.
-/
import Derived.Test.YtkghgjihaepnfaaDoorStep
import Derived.Test.YtkghgjihaepnfaaDoorWalkA
import Derived.Test.YtkghgjihaepnfaaDoorWalkLast
namespace Go.Proofs.YtkghgjihaepnfaaDoor
set_option linter.unusedVariables false
set_option linter.unusedSimpArgs false
open Go.RowKit

theorem nlAt_is {t : List UInt8} : ∀ {k : Nat}, t[k]? = some 10 → (∀ j, j < k → t[j]? ≠ some 10) → nlAt t = some k := by
  induction t with
  | nil => intro k h; simp at h
  | cons c r ih =>
    intro k h hb
    unfold nlAt
    cases k with
    | zero =>
      simp at h
      rw [if_pos h]
    | succ k =>
      have hc : c ≠ 10 := fun e => hb 0 (by omega) (by simp [e])
      rw [if_neg hc, ih (by simpa using h) (fun j hj => by have := hb (j + 1) (by omega); simpa using this)]
      rfl
theorem nlAt_no {t : List UInt8} (h : ∀ j : Nat, j < t.length → t[j]? ≠ some 10) : nlAt t = none := by
  cases hn : nlAt t with
  | none => rfl
  | some i => exact absurd (nlAt_some hn).1 (h i (nlAt_some hn).2.2)
theorem lines_first {t : List UInt8} {k : Nat} (h : nlAt t = some k) : lines (t.take (k + 1)) = [noCR (t.take k)] := by
  have hlt := (nlAt_some h).2.2
  have hk : nlAt (t.take (k + 1)) = some k := by
    refine nlAt_is ?_ fun j hj => ?_
    · rw [List.getElem?_take, if_pos (by omega)]; exact (nlAt_some h).1
    · rw [List.getElem?_take, if_pos (by omega)]; exact (nlAt_some h).2.1 j hj
  rw [lines_some hk, List.take_take, Nat.min_eq_left (by omega), List.drop_of_length_le (by simp; omega), lines_nil]

section
variable {w : World} {s : ByteArray}

theorem extract_head (s : ByteArray) (k : Nat) : (s.extract 0 k).data.toList = s.data.toList.take k := by
  rw [ByteArray.data_extract, Array.toList_extract, List.extract_eq_take_drop]
  simp

theorem ext_size (s : ByteArray) (k : Nat) {n : Nat} (h : s.size ≤ n) : (s.extract 0 k).size ≤ n := by
  have h1 : (s.extract 0 k).data.toList.length = (s.extract 0 k).size := by simp
  rw [← h1, extract_head]
  have h2 : s.data.toList.length = s.size := by simp
  simp only [List.length_take]
  omega

set_option maxHeartbeats 1000000 in
theorem fnLineStep_walk (eof : Bool) (hs : s.size ≤ 140737488355328) : Calls Tryd.prog 3 #[.string s, .bool eof] w (TrueB w) := by
  have hlen : s.data.toList.length = s.size := by simp
  have HLen := Lib.hid hlen
  have HStep := Lib.hid (lineStep_any s eof w hs)
  clear hlen
  go_enter Tryd.func3, Tryd.ntmps3
  go_wp2_with fail
  refine HStep.out.mono ?_
  rintro e w1 ⟨rfl, hb1⟩
  have HB1 := Lib.hid hb1
  clear hb1 HStep
  generalize hr : splitLines () s.data.toList eof = r at *
  obtain ⟨sp, adv, tok, cd⟩ := r
  have HR := Lib.hid hr
  clear hr
  go_wp2_with fail
  go_loop [9] (fun i => ∃ k : Nat, k ≤ s.size ∧ i = .int .i64 k ∧ Hid (∀ j : Nat, j < k → s.data.toList[j]? ≠ some 10)) (fun i => s.size - (intOf i).toNat)
  case atStart => exact ⟨0, Nat.zero_le _, rfl, Lib.hid (fun j hj => by omega)⟩
  case round =>
    obtain ⟨k, hk, rfl, hgood⟩ := hrel
    by_cases hlt : k < s.size
    · have hg : s.data.toList[k]? = some s[k] := by simp [hlt]; rfl
      by_cases hc : s[k] = 10
      · have hcb : ((s[k].toNat : Int) == 10) = true := by rw [hc]; rfl
        have hnl : nlAt s.data.toList = some k := nlAt_is (by rw [hg, hc]) hgood.out
        have hrr := HR.out
        simp only [splitLines, hnl, Ans.mk.injEq, true_and] at hrr
        obtain ⟨rfl, rfl, rfl⟩ := hrr
        have hl1 := lines_first hnl
        have HS := Lib.hid (fun w' => specLines_any (s.extract 0 (k + 1)) w' (ext_size s (k + 1) hs) (by rw [extract_head, hl1]; simp))
        rw [extract_head, hl1] at HS
        have hk1 : ((k : Int) + 1 == (k : Int) + 1) = true := by simp
        clear hg hc hnl hl1 hgood HR HLen
        generalize noCR (s.data.toList.take k) = z at *
        simp only [tokText, Option.isSome_some] at *
        go_wp2_with fail
        refine (HS.out _).mono ?_
        rintro e w2 ⟨v, rfl, hst, hb⟩
        have HB2 := Lib.hid (below_step HB1.out hb)
        obtain ⟨a, cap, rfl, h1, h2, h3⟩ := hst.strs
        obtain ⟨b, o, rfl, hcell⟩ := h3 0 z rfl
        rw [Nat.add_zero] at hcell
        have hz : (z == z) = true := by simp
        clear hst hb h3
        go_wp2_with fail
        go_ret
        exact ⟨rfl, HB2.out⟩
      · have hcb : ((s[k].toNat : Int) == 10) = false := by
          have : s[k].toNat ≠ 10 := fun h => hc (UInt8.toNat_inj.1 (by simpa using h))
          simp; omega
        have hnew : ∀ j : Nat, j < k + 1 → s.data.toList[j]? ≠ some 10 := fun j hj => by
          by_cases hjk : j = k
          · subst hjk; rw [hg]; simpa using hc
          · exact hgood.out j (by omega)
        have HN := Lib.hid hnew
        clear hg hc hnew hgood
        go_wp2_with fail
        go_round
        case rel => exact ⟨k + 1, by omega, by go_num, HN⟩
        case measure => simp [intOf]; omega
    · obtain rfl : k = s.size := by omega
      have hnl : nlAt s.data.toList = none := nlAt_no (by rw [HLen.out]; exact hgood.out)
      have hrr := HR.out
      clear HR hgood
      cases eof with
      | false =>
        clear hrr hnl
        go_wp2_with fail
        go_ret
        exact ⟨rfl, HB1.out⟩
      | true =>
        simp only [splitLines, hnl, Bool.true_and] at hrr
        cases hl : looseB s.data.toList with
        | true =>
          have HL := Lib.hid (fun w' => loose_t s w' (by omega) true hl)
          clear hrr hnl hl
          go_wp2_with fail
          refine (HL.out _).mono ?_
          rintro e w2 ⟨rfl, rfl⟩
          go_wp2_with fail
          go_ret
          exact ⟨rfl, HB1.out⟩
        | false =>
          have HL := Lib.hid (fun w' => loose_t s w' (by omega) false hl)
          by_cases h0 : s.size = 0
          · have h1 : s.data.toList = [] := List.length_eq_zero_iff.1 (by simpa using h0)
            rw [h1] at hrr
            simp only [List.isEmpty_nil, Bool.not_true, Bool.false_eq_true, if_false, Ans.mk.injEq, true_and] at hrr
            obtain ⟨rfl, rfl, rfl⟩ := hrr
            have hni : s.toList.isEmpty = true := by rw [ByteArray.toList_eq, h1]; rfl
            have hni2 : (s.toList = []) = True := by rw [ByteArray.toList_eq, h1]; simp
            clear hnl hl h1 h0
            simp only [tokText, Option.isSome_none] at *
            go_wp2_with fail
            refine (HL.out _).mono ?_
            rintro e w2 ⟨rfl, rfl⟩
            go_wp2_with fail
            go_ret
            exact ⟨rfl, HB1.out⟩
          · have hpos : 0 < s.size := by omega
            obtain ⟨hne, hni⟩ := toList_ne s hpos
            have hie : s.data.toList.isEmpty = false := by
              have := hni
              rw [ByteArray.toList_eq] at this
              exact this
            rw [hie] at hrr
            simp only [Bool.not_false, if_true, Ans.mk.injEq, true_and] at hrr
            obtain ⟨rfl, rfl, rfl⟩ := hrr
            have hncr : noCR s.data.toList = s.data.toList := by
              unfold noCR
              rw [if_neg]
              intro h
              rw [looseB, h] at hl
              simp at hl
            rw [hncr, HLen.out]
            have hsv : sv s.data.toList = .string s := by
              refine congrArg Value.string ?_
              obtain ⟨d⟩ := s
              simp
            simp only [tokText, Option.isSome_some, hsv]
            clear hnl hl hie hncr hsv h0
            go_wp2_with fail
            refine (HL.out _).mono ?_
            rintro e w2 ⟨rfl, rfl⟩
            go_wp2_with fail
            go_ret
            exact ⟨rfl, HB1.out⟩
end
end Go.Proofs.YtkghgjihaepnfaaDoor
