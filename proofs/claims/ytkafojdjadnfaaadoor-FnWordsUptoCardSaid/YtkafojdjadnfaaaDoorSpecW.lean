/-
  The reference's decode and Words.
-/
import Derived.Test.YtkafojdjadnfaaaDoorDec
import Derived.Test.YtkafojdjadnfaaaDoorSpace
import Derived.Test.YtkafojdjadnfaaaDoorTexts
namespace Go.Proofs.YtkafojdjadnfaaaDoor
set_option linter.unusedVariables false
set_option linter.unusedSimpArgs false
set_option maxRecDepth 20000
open Go.RowKit
open Go.Lib (decodeN)

theorem byt_at (s : ByteArray) (p j : Nat) (h : p + j < s.size) : (s[p + j]'h).toNat = byt (s.data.toList.drop p) j := by
  unfold byt
  rw [List.getElem?_drop]
  have : s.data.toList[p + j]? = some (s[p + j]'h) := by
    have h2 : p + j < s.data.toList.length := by simpa using h
    rw [List.getElem?_eq_getElem h2]
    rfl
  rw [this]; rfl
theorem byt_lt (d : List UInt8) (j : Nat) : byt d j < 256 := by unfold byt; exact UInt8.toNat_lt _

set_option maxHeartbeats 4000000 in
theorem specDecode_walk (s : ByteArray) (p : Nat) (w : World) (hp : p < s.size) (hs : s.size ≤ 9000000000000000000) (R K : Nat) (f : Nat → Nat) (hf : ∀ j (h : p + j < s.size), (s[p + j]'h).toNat = f j) (hfl : ∀ j, f j < 256)
    (hR : decodeN (s.size - p) (f 0) (f 1) (f 2) (f 3) = (R, K)) :
    Calls Tryd.prog 48 #[.string s, .int .i64 p] w fun e w' => e = .returned (.tuple #[.int .i64 R, .int .i64 K]) ∧ w = w' := by
  have h0 : (s[p]'hp).toNat = f 0 := hf 0 (by omega)
  have hf0 := hfl 0
  by_cases c0 : f 0 < 128
  · rw [decodeN_low _ _ _ _ _ c0] at hR
    cases hR
    generalize f 0 = b0 at *
    clear hf
    go_enter Tryd.func48, Tryd.ntmps48
    go_wp2_with fail
    go_ret2
    exact ⟨rfl, rfl⟩
  · by_cases c1 : (128 ≤ f 0 ∧ f 0 < 192) ∨ (248 ≤ f 0 ∧ f 0 < 256)
    · rw [decodeN_none _ _ _ _ _ c1] at hR
      cases hR
      generalize f 0 = b0 at *
      clear hf
      rcases c1 with c1 | c1
      · have d1 : ¬ ((b0 : Int) < 128) := by omega
        have d2 : ¬ ((192 : Int) ≤ (b0 : Int)) := by omega
        have d3 : ¬ ((224 : Int) ≤ (b0 : Int)) := by omega
        have d4 : ¬ ((240 : Int) ≤ (b0 : Int)) := by omega
        go_enter Tryd.func48, Tryd.ntmps48
        go_wp2_with fail
        go_ret2
        exact ⟨rfl, rfl⟩
      · have d1 : ¬ ((b0 : Int) < 128) := by omega
        have d2 : ¬ ((b0 : Int) < 224) := by omega
        have d3 : ¬ ((b0 : Int) < 240) := by omega
        have d4 : ¬ ((b0 : Int) < 248) := by omega
        go_enter Tryd.func48, Tryd.ntmps48
        go_wp2_with fail
        go_ret2
        exact ⟨rfl, rfl⟩
    · have hcls : ∃ sz least base, Cls (f 0) sz least base := by
        have := hfl 0
        by_cases h1 : f 0 < 224
        · exact ⟨2, 128, 192, .inl ⟨by omega, h1, rfl, rfl, rfl⟩⟩
        · by_cases h2 : f 0 < 240
          · exact ⟨3, 2048, 224, .inr (.inl ⟨by omega, h2, rfl, rfl, rfl⟩)⟩
          · exact ⟨4, 65536, 240, .inr (.inr ⟨by omega, by omega, rfl, rfl, rfl⟩)⟩
      obtain ⟨sz, least, base, hcls⟩ := hcls
      have HCl := Lib.hid hcls
      have HF := Lib.hid hf
      have HFl := Lib.hid hfl
      have HR := Lib.hid hR
      have hlt : (192 ≤ f 0 ∧ f 0 < 248) := by unfold Cls at hcls; omega
      clear hf hfl hR c0 c1
      rcases hcls with ⟨h1, h2, rfl, rfl, rfl⟩ | ⟨h1, h2, rfl, rfl, rfl⟩ | ⟨h1, h2, rfl, rfl, rfl⟩
      · have HV0 : Hid (f 0 - 192 < 32) := Lib.hid (by omega)
        by_cases hn : s.size - p < 2
        · have hr := HR.out
          rw [decodeN_short _ _ _ HCl.out hn] at hr
          cases hr
          clear HR HF HFl HCl
          generalize f 0 = b0 at *
          go_enter Tryd.func48, Tryd.ntmps48
          go_wp2_with fail
          go_ret2
          exact ⟨rfl, rfl⟩
        · have hst : ((f 0 - 192 : Nat) : Int) = (f 0 : Int) - 192 := by omega
          have g0 : decide ((f 0 : Int) < 128) = false := decide_eq_false (by omega)
          have g1 : decide ((f 0 : Int) < 224) = true := decide_eq_true (by omega)
          go_enter Tryd.func48, Tryd.ntmps48
          go_wp2_with fail
          go_loopw [9, 10] (fun v i wr => wr = w ∧ ∃ k : Nat, 1 ≤ k ∧ k ≤ 2 ∧ i = .int .i64 k ∧ v = .int .i64 (vAt (f 0 - 192) f k : Nat) ∧ Hid (∀ j, 1 ≤ j → j < k → 128 ≤ f j ∧ f j < 192)) (fun v i _ => 2 - (intOf i).toNat)
          case atStart => exact ⟨rfl, 1, by omega, by omega, rfl, by rw [vAt_one, hst], Lib.hid (fun j h1 h2 => by omega)⟩
          case round =>
            obtain ⟨rfl, k, hk1, hk2, rfl, rfl, hc⟩ := hrel
            have hle := vAt_le HV0.out k hk1 (by omega) hc.out
            by_cases hk : k < 2
            · have hsk : p + k < s.size := by omega
              have hsz := HF.out k hsk
              have hfk := HFl.out k
              by_cases hck : 128 ≤ f k ∧ f k < 192
              · have hnx := vAt_next (f 0 - 192) f hk1
                have HC2 : Hid (∀ j, 1 ≤ j → j < k + 1 → 128 ≤ f j ∧ f j < 192) := Lib.hid (fun j h1 h2 => by
                  by_cases hj : j = k
                  · subst hj; exact hck
                  · exact hc.out j h1 (by omega))
                have HNX := Lib.hid (show ((vAt (f 0 - 192) f (k + 1) : Nat) : Int) = (vAt (f 0 - 192) f k : Int) * 64 + (f k : Int) - 128 by omega)
                clear hnx hc h1 h2 hlt hf0 h0 hst
                generalize vAt (f 0 - 192) f k = V at *
                generalize f k = bk at *
                go_wp2_with fail
                go_roundw
                case rel => exact ⟨trivial, k + 1, by omega, by omega, by go_num, by rw [HNX.out], HC2⟩
                case measure => simp [intOf]; omega
              · have hr := HR.out
                rw [decodeN_stop HCl.out hk1 hk (by omega) HFl.out] at hr
                cases hr
                clear HR HF HFl HCl hc hst
                generalize vAt (f 0 - 192) f k = V at *
                generalize f k = bk at *
                by_cases hb1 : bk < 128
                · go_wp2_with fail
                  go_ret2
                  exact ⟨rfl, rfl⟩
                · have hb2 : 192 ≤ bk := by omega
                  go_wp2_with fail
                  go_ret2
                  exact ⟨rfl, rfl⟩
            · obtain rfl : k = 2 := by omega
              have hr := HR.out
              rw [decodeN_done HCl.out (by omega) hc.out] at hr
              clear HR HF HFl HCl hc hst
              generalize vAt (f 0 - 192) f 2 = V at *
              by_cases hcond : V < 128 ∨ 1114111 < V ∨ (55296 ≤ V ∧ V < 57344)
              · rw [if_pos hcond] at hr
                cases hr
                go_wp2_with fail
                all_goals first
                  | (exfalso; omega)
                  | (go_ret2; exact ⟨rfl, rfl⟩)
              · rw [if_neg hcond] at hr
                cases hr
                go_wp2_with fail
                all_goals first
                  | (exfalso; omega)
                  | (go_ret2; exact ⟨rfl, rfl⟩)
      · have HV0 : Hid (f 0 - 224 < 32) := Lib.hid (by omega)
        by_cases hn : s.size - p < 3
        · have hr := HR.out
          rw [decodeN_short _ _ _ HCl.out hn] at hr
          cases hr
          clear HR HF HFl HCl
          generalize f 0 = b0 at *
          go_enter Tryd.func48, Tryd.ntmps48
          go_wp2_with fail
          go_ret2
          exact ⟨rfl, rfl⟩
        · have hst : ((f 0 - 224 : Nat) : Int) = (f 0 : Int) - 224 := by omega
          have g0 : decide ((f 0 : Int) < 128) = false := decide_eq_false (by omega)
          have g1 : decide ((f 0 : Int) < 224) = false := decide_eq_false (by omega)
          have g2 : decide ((f 0 : Int) < 240) = true := decide_eq_true (by omega)
          go_enter Tryd.func48, Tryd.ntmps48
          go_wp2_with fail
          go_loopw [9, 10] (fun v i wr => wr = w ∧ ∃ k : Nat, 1 ≤ k ∧ k ≤ 3 ∧ i = .int .i64 k ∧ v = .int .i64 (vAt (f 0 - 224) f k : Nat) ∧ Hid (∀ j, 1 ≤ j → j < k → 128 ≤ f j ∧ f j < 192)) (fun v i _ => 3 - (intOf i).toNat)
          case atStart => exact ⟨rfl, 1, by omega, by omega, rfl, by rw [vAt_one, hst], Lib.hid (fun j h1 h2 => by omega)⟩
          case round =>
            obtain ⟨rfl, k, hk1, hk2, rfl, rfl, hc⟩ := hrel
            have hle := vAt_le HV0.out k hk1 (by omega) hc.out
            by_cases hk : k < 3
            · have hsk : p + k < s.size := by omega
              have hsz := HF.out k hsk
              have hfk := HFl.out k
              by_cases hck : 128 ≤ f k ∧ f k < 192
              · have hnx := vAt_next (f 0 - 224) f hk1
                have HC2 : Hid (∀ j, 1 ≤ j → j < k + 1 → 128 ≤ f j ∧ f j < 192) := Lib.hid (fun j h1 h2 => by
                  by_cases hj : j = k
                  · subst hj; exact hck
                  · exact hc.out j h1 (by omega))
                have HNX := Lib.hid (show ((vAt (f 0 - 224) f (k + 1) : Nat) : Int) = (vAt (f 0 - 224) f k : Int) * 64 + (f k : Int) - 128 by omega)
                clear hnx hc h1 h2 hlt hf0 h0 hst
                generalize vAt (f 0 - 224) f k = V at *
                generalize f k = bk at *
                go_wp2_with fail
                go_roundw
                case rel => exact ⟨trivial, k + 1, by omega, by omega, by go_num, by rw [HNX.out], HC2⟩
                case measure => simp [intOf]; omega
              · have hr := HR.out
                rw [decodeN_stop HCl.out hk1 hk (by omega) HFl.out] at hr
                cases hr
                clear HR HF HFl HCl hc hst
                generalize vAt (f 0 - 224) f k = V at *
                generalize f k = bk at *
                by_cases hb1 : bk < 128
                · go_wp2_with fail
                  go_ret2
                  exact ⟨rfl, rfl⟩
                · have hb2 : 192 ≤ bk := by omega
                  go_wp2_with fail
                  go_ret2
                  exact ⟨rfl, rfl⟩
            · obtain rfl : k = 3 := by omega
              have hr := HR.out
              rw [decodeN_done HCl.out (by omega) hc.out] at hr
              clear HR HF HFl HCl hc hst
              generalize vAt (f 0 - 224) f 3 = V at *
              by_cases hcond : V < 2048 ∨ 1114111 < V ∨ (55296 ≤ V ∧ V < 57344)
              · rw [if_pos hcond] at hr
                cases hr
                go_wp2_with fail
                all_goals first
                  | (exfalso; omega)
                  | (go_ret2; exact ⟨rfl, rfl⟩)
              · rw [if_neg hcond] at hr
                cases hr
                go_wp2_with fail
                all_goals first
                  | (exfalso; omega)
                  | (go_ret2; exact ⟨rfl, rfl⟩)
      · have HV0 : Hid (f 0 - 240 < 32) := Lib.hid (by omega)
        by_cases hn : s.size - p < 4
        · have hr := HR.out
          rw [decodeN_short _ _ _ HCl.out hn] at hr
          cases hr
          clear HR HF HFl HCl
          generalize f 0 = b0 at *
          go_enter Tryd.func48, Tryd.ntmps48
          go_wp2_with fail
          go_ret2
          exact ⟨rfl, rfl⟩
        · have hst : ((f 0 - 240 : Nat) : Int) = (f 0 : Int) - 240 := by omega
          have g0 : decide ((f 0 : Int) < 128) = false := decide_eq_false (by omega)
          have g1 : decide ((f 0 : Int) < 224) = false := decide_eq_false (by omega)
          have g2 : decide ((f 0 : Int) < 240) = false := decide_eq_false (by omega)
          have g3 : decide ((f 0 : Int) < 248) = true := decide_eq_true (by omega)
          go_enter Tryd.func48, Tryd.ntmps48
          go_wp2_with fail
          go_loopw [9, 10] (fun v i wr => wr = w ∧ ∃ k : Nat, 1 ≤ k ∧ k ≤ 4 ∧ i = .int .i64 k ∧ v = .int .i64 (vAt (f 0 - 240) f k : Nat) ∧ Hid (∀ j, 1 ≤ j → j < k → 128 ≤ f j ∧ f j < 192)) (fun v i _ => 4 - (intOf i).toNat)
          case atStart => exact ⟨rfl, 1, by omega, by omega, rfl, by rw [vAt_one, hst], Lib.hid (fun j h1 h2 => by omega)⟩
          case round =>
            obtain ⟨rfl, k, hk1, hk2, rfl, rfl, hc⟩ := hrel
            have hle := vAt_le HV0.out k hk1 (by omega) hc.out
            by_cases hk : k < 4
            · have hsk : p + k < s.size := by omega
              have hsz := HF.out k hsk
              have hfk := HFl.out k
              by_cases hck : 128 ≤ f k ∧ f k < 192
              · have hnx := vAt_next (f 0 - 240) f hk1
                have HC2 : Hid (∀ j, 1 ≤ j → j < k + 1 → 128 ≤ f j ∧ f j < 192) := Lib.hid (fun j h1 h2 => by
                  by_cases hj : j = k
                  · subst hj; exact hck
                  · exact hc.out j h1 (by omega))
                have HNX := Lib.hid (show ((vAt (f 0 - 240) f (k + 1) : Nat) : Int) = (vAt (f 0 - 240) f k : Int) * 64 + (f k : Int) - 128 by omega)
                clear hnx hc h1 h2 hlt hf0 h0 hst
                generalize vAt (f 0 - 240) f k = V at *
                generalize f k = bk at *
                go_wp2_with fail
                go_roundw
                case rel => exact ⟨trivial, k + 1, by omega, by omega, by go_num, by rw [HNX.out], HC2⟩
                case measure => simp [intOf]; omega
              · have hr := HR.out
                rw [decodeN_stop HCl.out hk1 hk (by omega) HFl.out] at hr
                cases hr
                clear HR HF HFl HCl hc hst
                generalize vAt (f 0 - 240) f k = V at *
                generalize f k = bk at *
                by_cases hb1 : bk < 128
                · go_wp2_with fail
                  go_ret2
                  exact ⟨rfl, rfl⟩
                · have hb2 : 192 ≤ bk := by omega
                  go_wp2_with fail
                  go_ret2
                  exact ⟨rfl, rfl⟩
            · obtain rfl : k = 4 := by omega
              have hr := HR.out
              rw [decodeN_done HCl.out (by omega) hc.out] at hr
              clear HR HF HFl HCl hc hst
              generalize vAt (f 0 - 240) f 4 = V at *
              by_cases hcond : V < 65536 ∨ 1114111 < V ∨ (55296 ≤ V ∧ V < 57344)
              · rw [if_pos hcond] at hr
                cases hr
                go_wp2_with fail
                all_goals first
                  | (exfalso; omega)
                  | (go_ret2; exact ⟨rfl, rfl⟩)
              · rw [if_neg hcond] at hr
                cases hr
                go_wp2_with fail
                all_goals first
                  | (exfalso; omega)
                  | (go_ret2; exact ⟨rfl, rfl⟩)

/-- the rune at a place of a text -/
theorem specDecode_any (s : ByteArray) (p : Nat) (w : World) (hp : p < s.size) (hs : s.size ≤ 9000000000000000000) :
    Calls Tryd.prog 48 #[.string s, .int .i64 p] w fun e w' => e = .returned (.tuple #[.int .i64 (dec (s.data.toList.drop p)).1, .int .i64 (dec (s.data.toList.drop p)).2]) ∧ w = w' := by
  refine specDecode_walk s p w hp hs _ _ (byt (s.data.toList.drop p)) (byt_at s p) (byt_lt _) ?_
  have : (s.data.toList.drop p).length = s.size - p := by simp
  rw [← this]; rfl
end Go.Proofs.YtkafojdjadnfaaaDoor
