/-
  The walk of FnLinesMany.
-/
import Derived.Test.YtkghgjihaepnfaaDoorWalkA
import Derived.Test.YtkghgjihaepnfaaDoorFacts
namespace Go.Proofs.YtkghgjihaepnfaaDoor
set_option linter.unusedVariables false
set_option linter.unusedSimpArgs false
open Go.RowKit

section
variable {base : Nat} {w : World} {E : Nat → Addr} {s : ByteArray}

theorem ba_get_mem (x : List UInt8) (j : Nat) (h : j < (⟨x.toArray⟩ : ByteArray).size) : (⟨x.toArray⟩ : ByteArray)[j] ∈ x := by
  have hj : j < x.length := by simpa [ByteArray.size] using h
  exact List.getElem_mem hj

set_option maxHeartbeats 1000000 in
theorem fnLinesMany_walk (hE : Env w.heap.size w E) (hs : s.size ≤ 4194304) : Calls Tryd.prog 13 #[.string s] w (TrueB w) := by
  cases hl : linedB s.data.toList true 0 0 with
  | false =>
    have HL := Lib.hid (lined_t w hs false hl)
    clear hl hE
    go_enter Tryd.func13, Tryd.ntmps13
    go_wp2_with fail
    refine HL.out.mono ?_
    rintro e w1 ⟨rfl, hb⟩
    go_wp2_with fail
    go_ret
    exact ⟨rfl, hb⟩
  | true =>
    have HL := Lib.hid (lined_t w hs true hl)
    have hf := LinedF.of hl
    have HI := Lib.hid (fun w' (h : Env w.heap.size w' E) => implLines_any (s := s) h hs hf.roomy)
    rw [hf.tokens] at HI
    have HE := Lib.hid hE
    have HNl := Lib.hid (fun x (hx : x ∈ lines s.data.toList) => lines_nonl hx)
    have HEach := Lib.hid (fun x (hx : x ∈ lines s.data.toList) => linesFrom_len)
    have HK := Lib.hid (nlTo_succ s.data.toList)
    have HLe := Lib.hid (nlTo_le s.data.toList)
    have hall := nlTo_all s.data.toList
    have hlen : s.data.toList.length = s.size := by simp
    rw [hlen] at hall
    have HAll := Lib.hid hall
    have HLen := Lib.hid hlen
    have HX := Lib.hid (lines_each (t := s.data.toList))
    clear hl hE hf hall hlen HEach
    go_enter Tryd.func13, Tryd.ntmps13
    go_wp2_with fail
    refine HL.out.mono ?_
    rintro e w1 ⟨rfl, hb1⟩
    have HB1 := Lib.hid hb1
    clear hb1
    go_wp2_with fail
    go_loop [3, 4] (fun n i => ∃ k : Nat, k ≤ s.size ∧ i = .int .i64 k ∧ n = .int .i64 (nlTo s.data.toList k : Nat)) (fun _ i => s.size - (intOf i).toNat)
    case atStart => exact ⟨0, Nat.zero_le _, rfl, rfl⟩
    case round =>
      obtain ⟨k, hk, rfl, rfl⟩ := hrel
      have hnk := HLe.out k
      by_cases hlt : k < s.size
      · have hsk := HK.out k
        have hg : s.data.toList[k]? = some s[k] := by simp [hlt]; rfl
        rw [hg, HLen.out] at hsk
        have HSK := Lib.hid hsk
        clear hg hsk
        by_cases hc : s[k] = 10
        · have hcb : ((s[k].toNat : Int) == 10) = true := by rw [hc]; rfl
          have h1 := HSK.out
          rw [if_pos (.inl (by rw [hc]))] at h1
          have H1 := Lib.hid h1
          clear h1 HSK hc
          go_wp2_with fail
          go_round
          case rel => exact ⟨k + 1, by omega, by go_num, by rw [H1.out]; go_num⟩
          case measure => simp [intOf]; omega
        · have hcb : ((s[k].toNat : Int) == 10) = false := by
            have : s[k].toNat ≠ 10 := fun h => hc (UInt8.toNat_inj.1 (by simpa using h))
            simp; omega
          by_cases he : k + 1 = s.size
          · have heb : ((k : Int) + 1 == (s.size : Int)) = true := by simp; omega
            have h1 := HSK.out
            rw [if_pos (.inr he)] at h1
            have H1 := Lib.hid h1
            have HE1 := Lib.hid he
            clear h1 HSK hc he
            go_wp2_with fail
            go_round
            case rel => exact ⟨k + 1, by omega, by go_num, by rw [H1.out]; go_num⟩
            case measure => simp [intOf]; omega
          · have heb : ((k : Int) + 1 == (s.size : Int)) = false := by simp; omega
            have h1 := HSK.out
            rw [if_neg (by rintro (h2 | h2); exact hc (Option.some.inj h2); exact he h2)] at h1
            have H1 := Lib.hid h1
            clear h1 HSK hc he
            go_wp2_with fail
            go_round
            case rel => exact ⟨k + 1, by omega, by go_num, by rw [H1.out]; rfl⟩
            case measure => simp [intOf]; omega
      · obtain rfl : k = s.size := by omega
        have hr := HAll.out
        rw [hr]
        clear HK HLe hnk hr
        go_wp2_with fail
        refine (HI.out _ (HE.out.later HB1.out)).mono ?_
        rintro e w2 ⟨v, rfl, hst, hb2⟩
        have HB2 := Lib.hid (below_step HB1.out hb2)
        obtain ⟨a, cap, rfl, h1, h2, h3⟩ := hst.strs
        have H3 := Lib.hid h3
        have hsz : (lines s.data.toList).length ≤ 4194304 := by have := lines_len s.data.toList; have := HLen.out; omega
        have HLl := HLen.out
        rw [HLl] at HX
        have HLL := Lib.hid HLl
        clear hst hb2 HB1 h3 HLl HAll HI HE HL
        generalize lines s.data.toList = ls at *
        go_wp2_with fail
        go_loop [36] (fun i => ∃ k : Nat, k ≤ ls.length ∧ i = .int .i64 k) (fun i => ls.length - (intOf i).toNat)
        case atStart => exact ⟨0, Nat.zero_le _, rfl⟩
        case round =>
          obtain ⟨k, hk, rfl⟩ := hrel
          by_cases hlt : k < ls.length
          · obtain ⟨b, o, rfl, hc⟩ := H3.out k ls[k] (List.getElem?_eq_getElem hlt)
            have HM := Lib.hid (HNl.out ls[k] (List.getElem_mem hlt))
            have hxl := HX.out ls[k] (List.getElem_mem hlt)
            generalize ls[k] = x at hc HM hxl
            go_wp2_with fail
            go_loop [8] (fun i => ∃ j : Nat, j ≤ x.length ∧ i = .int .i64 j) (fun i => x.length - (intOf i).toNat)
            case atStart => exact ⟨0, Nat.zero_le _, rfl⟩
            case round =>
              obtain ⟨j, hj, rfl⟩ := hrel
              by_cases hjl : j < x.length
              · have hjs : j < (⟨x.toArray⟩ : ByteArray).size := by simpa [ByteArray.size] using hjl
                have hne := HM.out ((⟨x.toArray⟩ : ByteArray)[j]) (ba_get_mem x j hjs)
                have hcb : ((((⟨x.toArray⟩ : ByteArray)[j]).toNat : Int) == 10) = false := by
                  have : ((⟨x.toArray⟩ : ByteArray)[j]).toNat ≠ 10 := fun h => hne (UInt8.toNat_inj.1 (by simpa using h))
                  simp; omega
                clear hne
                go_wp2_with fail
                go_round
                case rel => exact ⟨j + 1, by omega, by go_num⟩
                case measure => simp [intOf]; omega
              · obtain rfl : j = x.length := by omega
                go_wp2_with fail
                go_round
                case rel => exact ⟨k + 1, by omega, by go_num⟩
                case measure => simp [intOf]; omega
          · obtain rfl : k = ls.length := by omega
            go_wp2_with fail
            go_ret
            exact ⟨rfl, HB2.out⟩
end
end Go.Proofs.YtkghgjihaepnfaaDoor
