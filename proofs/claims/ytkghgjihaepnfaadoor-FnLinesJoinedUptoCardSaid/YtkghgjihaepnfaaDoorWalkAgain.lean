/-
  The walk of FnLinesAgain.
-/
import Derived.Test.YtkghgjihaepnfaaDoorWalkA
import Derived.Test.YtkghgjihaepnfaaDoorFacts
namespace Go.Proofs.YtkghgjihaepnfaaDoor
set_option linter.unusedVariables false
set_option linter.unusedSimpArgs false
open Go.RowKit

theorem ba_eq {a b : ByteArray} (h : a.data.toList = b.data.toList) : a = b := by
  obtain ⟨a⟩ := a
  obtain ⟨b⟩ := b
  congr 1
  exact Array.ext' h
theorem ba_list (l : List UInt8) : (⟨l.toArray⟩ : ByteArray).data.toList = l := rfl
theorem ba_append (a b : ByteArray) : (a ++ b).data.toList = a.data.toList ++ b.data.toList := by
  rw [ByteArray.data_append]; simp

theorem joinL_take_le (ls : List (List UInt8)) (k : Nat) : (joinL (ls.take k)).length ≤ (joinL ls).length := by
  have h : ls = ls.take k ++ ls.drop k := (List.take_append_drop k ls).symm
  have e : joinL ls = joinL (ls.take k) ++ joinL (ls.drop k) := by
    unfold joinL
    rw [← List.flatMap_append, List.take_append_drop]
  rw [e, List.length_append]
  omega

section
variable {base : Nat} {w : World} {E : Nat → Addr}

set_option maxHeartbeats 1000000 in
theorem fnLinesAgain_walk (v : Value) (ls : List (List UInt8)) (hv : Strs w v ls) (hE : Env w.heap.size w E) (hs : (joinL ls).length ≤ 4194304) : Calls Tryd.prog 10 #[v] w (TrueB w) := by
  have hv0 := hv
  obtain ⟨a, cap, rfl, h1, h2, h3⟩ := hv
  have H3 := Lib.hid h3
  have HV := Lib.hid hv0
  have HE := Lib.hid hE
  clear h3 hv0 hE
  go_enter Tryd.func10, Tryd.ntmps10
  go_wp2_with fail
  go_loop [3, 9] (fun t i => ∃ k : Nat, k ≤ ls.length ∧ i = .int .i64 k ∧ t = sv (joinL (ls.take k)) ∧ Hid (∀ l ∈ ls.take k, ∀ c ∈ l, c ≠ 10 ∧ c ≠ 13)) (fun _ i => ls.length - (intOf i).toNat)
  case atStart => exact ⟨0, Nat.zero_le _, rfl, rfl, Lib.hid (by simp)⟩
  case round =>
    obtain ⟨k, hk, rfl, rfl, hgood⟩ := hrel
    by_cases hlt : k < ls.length
    · obtain ⟨b, o, rfl, hc⟩ := H3.out k ls[k] (List.getElem?_eq_getElem hlt)
      have htk : ls.take (k + 1) = ls.take k ++ [ls[k]] := List.take_succ_eq_append_getElem hlt
      have hj1 := joinL_snoc (ls.take k) ls[k]
      rw [← htk] at hj1
      have hle : (joinL (ls.take (k + 1))).length ≤ 4194304 := Nat.le_trans (joinL_take_le ls (k + 1)) hs
      rw [hj1] at hle
      simp only [List.length_append, List.length_singleton] at hle
      have hg' : (∀ c ∈ ls[k], c ≠ 10 ∧ c ≠ 13) → ∀ l ∈ ls.take (k + 1), ∀ c ∈ l, c ≠ 10 ∧ c ≠ 13 := fun h l hl => by
        rw [htk] at hl
        rcases List.mem_append.1 hl with hl | hl
        · exact hgood.out l hl
        · simp at hl; subst hl; exact h
      have HJ := Lib.hid hj1
      have HG := Lib.hid hg'
      clear htk hj1 hg' hgood
      generalize ls[k] = x at *
      generalize joinL (ls.take k) = t at *
      have hxl : x.length ≤ 4194304 := by omega
      have htl : t.length ≤ 4194304 := by omega
      have hsum : t.length + (x.length + 1) ≤ 4194304 := by omega
      have hv : Value.string (⟨t.toArray⟩ ++ (⟨x.toArray⟩ ++ ⟨#[10]⟩)) = sv (joinL (ls.take (k + 1))) := by
        rw [HJ.out]
        exact congrArg Value.string (ba_eq (by rw [ba_append, ba_append]))
      have HV := Lib.hid hv
      clear hv hle
      go_wp2_with fail
      go_loop [6] (fun i => ∃ j : Nat, j ≤ x.length ∧ i = .int .i64 j ∧ Hid (∀ c ∈ x.take j, c ≠ 10 ∧ c ≠ 13)) (fun i => x.length - (intOf i).toNat)
      case atStart => exact ⟨0, Nat.zero_le _, rfl, Lib.hid (by simp)⟩
      case round =>
        obtain ⟨j, hj, rfl, hgd⟩ := hrel
        by_cases hjl : j < x.length
        · have hjs : j < (⟨x.toArray⟩ : ByteArray).size := by simpa [ByteArray.size] using hjl
          have hxt : x.take (j + 1) = x.take j ++ [(⟨x.toArray⟩ : ByteArray)[j]] := List.take_succ_eq_append_getElem hjl
          have HXT := Lib.hid hxt
          clear hxt
          by_cases h10 : (⟨x.toArray⟩ : ByteArray)[j] = 10
          · have hcb : ((((⟨x.toArray⟩ : ByteArray)[j]).toNat : Int) == 10) = true := by rw [h10]; rfl
            clear h10
            go_wp2_with fail
            go_ret
            exact ⟨rfl, Below.refl _ _⟩
          · have hcb : ((((⟨x.toArray⟩ : ByteArray)[j]).toNat : Int) == 10) = false := by
              have : ((⟨x.toArray⟩ : ByteArray)[j]).toNat ≠ 10 := fun h => h10 (UInt8.toNat_inj.1 (by simpa using h))
              simp; omega
            by_cases h13 : (⟨x.toArray⟩ : ByteArray)[j] = 13
            · have hcb2 : ((((⟨x.toArray⟩ : ByteArray)[j]).toNat : Int) == 13) = true := by rw [h13]; rfl
              clear h10 h13
              go_wp2_with fail
              go_ret
              exact ⟨rfl, Below.refl _ _⟩
            · have hcb2 : ((((⟨x.toArray⟩ : ByteArray)[j]).toNat : Int) == 13) = false := by
                have : ((⟨x.toArray⟩ : ByteArray)[j]).toNat ≠ 13 := fun h => h13 (UInt8.toNat_inj.1 (by simpa using h))
                simp; omega
              have hnew : ∀ c ∈ x.take (j + 1), c ≠ 10 ∧ c ≠ 13 := fun c hc => by
                rw [HXT.out] at hc
                rcases List.mem_append.1 hc with hc | hc
                · exact hgd.out c hc
                · simp only [List.mem_singleton] at hc
                  subst hc
                  exact ⟨h10, h13⟩
              have HN := Lib.hid hnew
              clear hnew h10 h13 HXT
              go_wp2_with fail
              go_round
              case rel => exact ⟨j + 1, by omega, by go_num, HN⟩
              case measure => simp [intOf]; omega
        · obtain rfl : j = x.length := by omega
          have hx := hgd.out
          rw [List.take_length] at hx
          have HN := Lib.hid (HG.out hx)
          clear hx hgd
          go_wp2_with fail
          go_round
          case rel => exact ⟨k + 1, by omega, by go_num, HV.out, HN⟩
          case measure => simp [intOf]; omega
    · obtain rfl : k = ls.length := by omega
      rw [List.take_length] at hgood ⊢
      have hlines := lines_joinL ls hgood.out
      have hsz : (⟨(joinL ls).toArray⟩ : ByteArray).size ≤ 4194304 := by simpa [ByteArray.size] using hs
      cases hl : linedB (joinL ls) true 0 0 with
      | false =>
        have HL := Lib.hid (lined_t (s := ⟨(joinL ls).toArray⟩) w hsz false hl)
        clear hl hlines
        go_wp2_with fail
        refine HL.out.mono ?_
        rintro e w1 ⟨rfl, hb⟩
        go_wp2_with fail
        go_ret
        exact ⟨rfl, hb⟩
      | true =>
        have HL := Lib.hid (lined_t (s := ⟨(joinL ls).toArray⟩) w hsz true hl)
        have hf := LinedF.of hl
        have HI := Lib.hid (fun w' (h : Env w.heap.size w' E) => implLines_any (s := ⟨(joinL ls).toArray⟩) h hsz hf.roomy)
        have htok : tokens (⟨(joinL ls).toArray⟩ : ByteArray).data.toList = ls := hf.tokens.trans hlines
        rw [htok] at HI
        clear hl hf hlines htok
        go_wp2_with fail
        refine HL.out.mono ?_
        rintro e w1 ⟨rfl, hb1⟩
        have HB1 := Lib.hid hb1
        clear hb1
        go_wp2_with fail
        refine (HI.out _ (HE.out.later HB1.out)).mono ?_
        rintro e w2 ⟨v, rfl, hst, hb2⟩
        have HB2 := Lib.hid (below_step HB1.out hb2)
        have HST := Lib.hid hst.strs
        have HVV := Lib.hid (HV.out.below (below_step HB1.out hb2))
        clear hst hb2 HB1
        go_wp2_with fail
        refine (same_yes _ _ _ _ HST.out HVV.out).mono ?_
        rintro e w4 ⟨rfl, n, rfl⟩
        go_wp2_with fail
        go_ret
        exact ⟨rfl, below_drewN HB2.out n⟩
end
end Go.Proofs.YtkghgjihaepnfaaDoor
