/-
  The walk of FnLineStepMore.
-/
import Derived.Test.YtkafojdjadnfaaaDoorStep
import Derived.Test.YtkafojdjadnfaaaDoorCode
import Derived.Test.YtkafojdjadnfaaaDoorTrue
import Derived.Test.YtkafojdjadnfaaaDoorFacts
namespace Go.Proofs.YtkafojdjadnfaaaDoor
set_option linter.unusedVariables false
set_option linter.unusedSimpArgs false
set_option maxRecDepth 20000
open Go.RowKit

theorem nlAt_no {t : List UInt8} (h : ∀ j : Nat, j < t.length → t[j]? ≠ some 10) : nlAt t = none := by
  cases hn : nlAt t with
  | none => rfl
  | some i => exact absurd (nlAt_some hn).1 (h i (nlAt_some hn).2.2)
abbrev nlB : ByteArray := ⟨#[10]⟩
theorem ba_nl (a : ByteArray) : (a ++ nlB).data.toList = a.data.toList ++ [10] := by rw [ByteArray.data_append]; simp
theorem size_nl (a : ByteArray) : (a ++ nlB).size = a.size + 1 := by rw [ByteArray.size_append]; rfl
/-- data without a newline, and a newline: one line -/
theorem lines_one {t : List UInt8} (h : nlAt t = none) : lines (t ++ [10]) = [noCR t] := by
  have h1 : nlAt (t ++ [10]) = some t.length := by rw [nlAt_append_none h]; simp [nlAt]
  rw [lines_some h1]
  simp [lines_nil]
theorem tokens_one {t : List UInt8} (h : nlAt t = none) : tokens (t ++ [10]) = [noCR t] := by
  rw [tokens_lines _ _ (Nat.le_refl _) (by simp), lines_one h]
theorem roomy_one {t : List UInt8} (h : nlAt t = none) (hl : t.length < 65000) : Roomy 65536 (t ++ [10]) := by
  intro l hm
  rw [lines_one h] at hm
  simp at hm
  subst hm
  have : (noCR t).length ≤ t.length := by
    unfold noCR; split
    · simp
    · exact Nat.le_refl _
  omega

section
variable {w : World} {E : Nat → Addr} {s : ByteArray}
set_option maxHeartbeats 400000 in
theorem specOne_any (w : World) (hs : s.size ≤ 65000) (h : nlAt s.data.toList = none) : Calls Tryd.prog 25 #[.string s] w fun e w' => e = .returned (.int .i64 1) ∧ Below w.heap.size w w' := by
  have hS := specLinesG (s ++ nlB) w (by rw [size_nl]; omega)
  rw [ba_nl, lines_one h] at hS
  have HS := Lib.hid hS
  clear hS h
  generalize noCR s.data.toList = z at *
  go_enter Tryd.func25, Tryd.ntmps25
  go_wp2_with fail
  refine HS.out.mono ?_
  rintro e w1 ⟨v, rfl, hst, hb⟩
  obtain ⟨a, cap, rfl, h1, h2, h3⟩ := hst.strs
  clear hst h3
  go_wp2_with fail
  go_ret
  exact ⟨rfl, hb⟩

set_option maxHeartbeats 1000000 in
theorem fnLineStepMore_walk (hE : EnvC w.heap.size w E) (hs : s.size ≤ 140737488355328) : Calls Tryd.prog 6 #[.string s] w (TrueB w) := by
  have hlen : s.data.toList.length = s.size := by simp
  have HLen := Lib.hid hlen
  have HE := Lib.hid hE
  clear hlen hE
  go_enter Tryd.func6, Tryd.ntmps6
  go_wp2_with fail
  go_loopw [3] (fun i wr => wr = w ∧ ∃ k : Nat, k ≤ s.size ∧ i = .int .i64 k ∧ Hid (∀ j : Nat, j < k → s.data.toList[j]? ≠ some 10)) (fun i _ => s.size - (intOf i).toNat)
  case atStart => exact ⟨rfl, 0, Nat.zero_le _, rfl, Lib.hid (fun j hj => by omega)⟩
  case round =>
    obtain ⟨rfl, k, hk, rfl, hgood⟩ := hrel
    by_cases hlt : k < s.size
    · have hg : s.data.toList[k]? = some s[k] := by simp [hlt]; rfl
      by_cases hc : s[k] = 10
      · have hcb : ((s[k].toNat : Int) == 10) = true := by rw [hc]; rfl
        clear hg hc hgood HLen HE
        go_wp2_with fail
        go_ret
        exact ⟨rfl, Below.refl _ _⟩
      · have hcb : ((s[k].toNat : Int) == 10) = false := by
          have : s[k].toNat ≠ 10 := fun h => hc (UInt8.toNat_inj.1 (by simpa using h))
          simp; omega
        have hnew : ∀ j : Nat, j < k + 1 → s.data.toList[j]? ≠ some 10 := fun j hj => by
          by_cases hjk : j = k
          · subst hjk; rw [hg]; simpa using hc
          · exact hgood.out j (by omega)
        have HN := Lib.hid hnew
        clear hg hc hnew hgood
        go_wp2_with fail
        go_roundw
        case rel => exact ⟨trivial, k + 1, by omega, by go_num, HN⟩
        case measure => simp [intOf]; omega
    · obtain rfl : k = s.size := by omega
      have hnl : nlAt s.data.toList = none := nlAt_no (by rw [HLen.out]; exact hgood.out)
      have hst := lineStep_any s false wr hs
      have e1 : splitLines () s.data.toList false = ⟨(), 0, none, 0⟩ := by simp [splitLines, hnl]
      rw [e1] at hst
      have HSt := Lib.hid hst
      clear hst e1 hgood
      by_cases h65 : s.size < 65000
      · have HO := Lib.hid (fun w' => specOne_any (s := s) w' (by omega) hnl)
        have hI := fun w' (h : EnvC wr.heap.size w' E) => implLines_any (s := s ++ nlB) h.e (by rw [size_nl]; omega) (by rw [ba_nl]; exact roomy_one hnl (by rw [HLen.out]; exact h65))
        rw [ba_nl, tokens_one hnl] at hI
        have HI := Lib.hid hI
        have h65b : decide ((s.size : Int) < 65000) = true := decide_eq_true (by omega)
        clear hI hnl HLen
        generalize noCR s.data.toList = z at *
        go_wp2_with fail
        refine HSt.out.mono ?_
        rintro e w1 ⟨rfl, hb1⟩
        have HB1 := Lib.hid hb1
        clear hb1
        simp only [tokText, Option.isSome_none] at *
        go_wp2_with fail
        refine (HI.out _ (HE.out.later HB1.out)).mono ?_
        rintro e w2 ⟨v, rfl, hst, hb⟩
        have HB2 := Lib.hid (below_step HB1.out hb)
        obtain ⟨a, cap, rfl, h1, h2, h3⟩ := hst.strs
        clear hst h3 hb
        go_wp2_with fail
        refine (HO.out _).mono ?_
        rintro e w3 ⟨rfl, hb3⟩
        go_wp2_with fail
        go_ret
        exact ⟨rfl, below_step HB2.out hb3⟩
      · have h65b : decide ((s.size : Int) < 65000) = false := decide_eq_false (by omega)
        clear hnl HLen HE
        go_wp2_with fail
        refine HSt.out.mono ?_
        rintro e w1 ⟨rfl, hb1⟩
        simp only [tokText, Option.isSome_none] at *
        go_wp2_with fail
        go_ret
        exact ⟨rfl, hb1⟩
end
end Go.Proofs.YtkafojdjadnfaaaDoor
