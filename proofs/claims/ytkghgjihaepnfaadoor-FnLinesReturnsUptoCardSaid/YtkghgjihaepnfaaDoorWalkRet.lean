/-
  The walk of FnLinesReturns.
-/
import Derived.Test.YtkghgjihaepnfaaDoorWalkAgain
namespace Go.Proofs.YtkghgjihaepnfaaDoor
set_option linter.unusedVariables false
set_option linter.unusedSimpArgs false
open Go.RowKit

section
variable {base : Nat} {w : World} {E : Nat → Addr} {s : ByteArray}

theorem extract_one (s : ByteArray) (k : Nat) (h : k < s.size) : (s.extract k (k + 1)).data.toList = [s[k]] := by
  rw [ByteArray.data_extract, Array.toList_extract, List.extract_eq_take_drop]
  have h1 : k < s.data.toList.length := by simpa using h
  rw [show k + 1 - k = 1 by omega, List.drop_eq_getElem_cons h1]
  simp
  rfl

set_option maxHeartbeats 1000000 in
theorem fnLinesReturns_walk (hE : Env w.heap.size w E) (hs : s.size ≤ 1048576) : Calls Tryd.prog 14 #[.string s] w (TrueB w) := by
  have hlen : s.data.toList.length = s.size := by simp
  have HLen := Lib.hid hlen
  have HE := Lib.hid hE
  clear hE hlen
  go_enter Tryd.func14, Tryd.ntmps14
  go_wp2_with fail
  go_loop [3, 4] (fun t i => ∃ k : Nat, k ≤ s.size ∧ i = .int .i64 k ∧ t = sv (withCR (s.data.toList.take k)) ∧ Hid (∀ c ∈ s.data.toList.take k, c ≠ 13)) (fun _ i => s.size - (intOf i).toNat)
  case atStart => exact ⟨0, Nat.zero_le _, rfl, rfl, Lib.hid (by simp)⟩
  case round =>
    obtain ⟨k, hk, rfl, rfl, hgood⟩ := hrel
    have hwl := withCR_len (s.data.toList.take k)
    have hwl2 : (withCR (s.data.toList.take k)).length ≤ 2097152 := by
      have := HLen.out
      simp at hwl
      omega
    clear hwl
    by_cases hlt : k < s.size
    · have htk : s.data.toList.take (k + 1) = s.data.toList.take k ++ [s[k]] := by
        rw [List.take_succ_eq_append_getElem (by simpa using hlt)]; rfl
      have hsn := withCR_snoc (s.data.toList.take k) s[k]
      rw [← htk] at hsn
      have hex := extract_one s k hlt
      have hg' : s[k] ≠ 13 → ∀ c ∈ s.data.toList.take (k + 1), c ≠ 13 := fun h c hc => by
        rw [htk] at hc
        rcases List.mem_append.1 hc with hc | hc
        · exact hgood.out c hc
        · simp at hc; subst hc; exact h
      have HTK := Lib.hid htk
      have HSn := Lib.hid hsn
      have HX := Lib.hid hex
      have HG := Lib.hid hg'
      clear htk hsn hex hg' hgood
      by_cases h13 : s[k] = 13
      · have hcb : ((s[k].toNat : Int) == 13) = true := by rw [h13]; rfl
        clear h13
        go_wp2_with fail
        go_ret
        exact ⟨rfl, Below.refl _ _⟩
      · have hcb : ((s[k].toNat : Int) == 13) = false := by
          have : s[k].toNat ≠ 13 := fun h => h13 (UInt8.toNat_inj.1 (by simpa using h))
          simp; omega
        have HG1 := Lib.hid (HG.out h13)
        by_cases h10 : s[k] = 10
        · have hcb2 : ((s[k].toNat : Int) == 10) = true := by rw [h10]; rfl
          have hv : Value.string (⟨(withCR (s.data.toList.take k)).toArray⟩ ++ ⟨#[13]⟩ ++ s.extract k (k + 1)) = sv (withCR (s.data.toList.take (k + 1))) := by
            rw [HSn.out, if_pos h10]
            refine congrArg Value.string (ba_eq ?_)
            rw [ba_append, ba_append, HX.out, h10]
            simp
          have HV := Lib.hid hv
          clear hv h10 h13 HSn HX HTK HG
          generalize withCR (s.data.toList.take k) = t at *
          go_wp2_with fail
          go_round
          case rel => exact ⟨k + 1, by omega, by go_num, HV.out, HG1⟩
          case measure => simp [intOf]; omega
        · have hcb2 : ((s[k].toNat : Int) == 10) = false := by
            have : s[k].toNat ≠ 10 := fun h => h10 (UInt8.toNat_inj.1 (by simpa using h))
            simp; omega
          have hv : Value.string (⟨(withCR (s.data.toList.take k)).toArray⟩ ++ s.extract k (k + 1)) = sv (withCR (s.data.toList.take (k + 1))) := by
            rw [HSn.out, if_neg h10]
            refine congrArg Value.string (ba_eq ?_)
            rw [ba_append, HX.out]
          have HV := Lib.hid hv
          clear hv h10 h13 HSn HX HTK HG
          generalize withCR (s.data.toList.take k) = t at *
          go_wp2_with fail
          go_round
          case rel => exact ⟨k + 1, by omega, by go_num, HV.out, HG1⟩
          case measure => simp [intOf]; omega
    · obtain rfl : k = s.size := by omega
      have hta : s.data.toList.take s.size = s.data.toList := by rw [← HLen.out, List.take_length]
      rw [hta] at hwl2 hgood ⊢
      have hlines := lines_withCR s.data.toList hgood.out
      have hs1 : s.size ≤ 4194304 := by omega
      have hsz : (⟨(withCR s.data.toList).toArray⟩ : ByteArray).size ≤ 4194304 := by simp only [ByteArray.size, List.size_toArray]; omega
      cases hl : linedB s.data.toList true 0 0 with
      | false =>
        have HL := Lib.hid (lined_t w hs1 false hl)
        clear hl hlines hta hgood
        go_wp2_with fail
        refine HL.out.mono ?_
        rintro e w1 ⟨rfl, hb⟩
        go_wp2_with fail
        go_ret
        exact ⟨rfl, hb⟩
      | true =>
        have HL := Lib.hid (lined_t w hs1 true hl)
        have hf := LinedF.of hl
        have HI := Lib.hid (fun w' (h : Env w.heap.size w' E) => implLines_any (s := s) h hs1 hf.roomy)
        rw [hf.tokens] at HI
        have HS := Lib.hid (fun w' => specLinesG s w' hs1)
        have hll := lines_len s.data.toList
        rw [HLen.out] at hll
        cases hl2 : linedB (withCR s.data.toList) true 0 0 with
        | false =>
          have HL2 := Lib.hid (fun w' => lined_t (s := ⟨(withCR s.data.toList).toArray⟩) w' hsz false hl2)
          clear hl hl2 hlines hta hgood hf
          go_wp2_with fail
          refine HL.out.mono ?_
          rintro e w1 ⟨rfl, hb⟩
          have HB := Lib.hid hb
          clear hb
          go_wp2_with fail
          refine (HL2.out _).mono ?_
          rintro e w2 ⟨rfl, hb⟩
          go_wp2_with fail
          go_ret
          exact ⟨rfl, below_step HB.out hb⟩
        | true =>
          have HL2 := Lib.hid (fun w' => lined_t (s := ⟨(withCR s.data.toList).toArray⟩) w' hsz true hl2)
          have hf2 := LinedF.of hl2
          have HI2 := Lib.hid (fun w' (h : Env w.heap.size w' E) => implLines_any (s := ⟨(withCR s.data.toList).toArray⟩) h hsz hf2.roomy)
          have htok : tokens (⟨(withCR s.data.toList).toArray⟩ : ByteArray).data.toList = lines s.data.toList := hf2.tokens.trans hlines
          rw [htok] at HI2
          clear hl hl2 hlines hta hgood hf hf2 htok
          generalize lines s.data.toList = ls at *
          go_wp2_with fail
          refine HL.out.mono ?_
          rintro e w1 ⟨rfl, hb⟩
          have HB := Lib.hid hb
          clear hb
          go_wp2_with fail
          refine (HL2.out _).mono ?_
          rintro e w2 ⟨rfl, hb⟩
          have HB2 := Lib.hid (below_step HB.out hb)
          clear hb HB
          go_wp2_with fail
          refine (HI.out _ (HE.out.later HB2.out)).mono ?_
          rintro e w3 ⟨v3, rfl, hst, hb⟩
          have HB3 := Lib.hid (below_step HB2.out hb)
          have HST := Lib.hid hst.strs
          clear hst hb HB2
          go_wp2_with fail
          refine (HI2.out _ (HE.out.later HB3.out)).mono ?_
          rintro e w4 ⟨v4, rfl, hst, hb⟩
          have HB4 := Lib.hid (below_step HB3.out hb)
          have HST1 := Lib.hid (HST.out.below hb)
          have HST2 := Lib.hid hst.strs
          clear hst hb HB3 HST
          go_wp2_with fail
          refine (same_yes _ _ _ _ HST1.out HST2.out).mono ?_
          rintro e w5 ⟨rfl, n, rfl⟩
          have HB5 := Lib.hid (below_drewN HB4.out n)
          generalize w4.drewN n = w5 at *
          go_wp2_with fail
          refine (HI2.out _ (HE.out.later HB5.out)).mono ?_
          rintro e w6 ⟨v6, rfl, hst, hb⟩
          have HB6 := Lib.hid (below_step HB5.out hb)
          obtain ⟨a6, c6, rfl, -, -, -⟩ := hst.strs
          clear hst hb HB5
          go_wp2_with fail
          refine (HS.out _).mono ?_
          rintro e w7 ⟨v7, rfl, hst, hb⟩
          have HB7 := Lib.hid (below_step HB6.out hb)
          obtain ⟨a7, c7, rfl, -, -, -⟩ := hst.strs
          clear hst hb HB6
          go_wp2_with fail
          go_ret
          exact ⟨rfl, HB7.out⟩
end
end Go.Proofs.YtkghgjihaepnfaaDoor
