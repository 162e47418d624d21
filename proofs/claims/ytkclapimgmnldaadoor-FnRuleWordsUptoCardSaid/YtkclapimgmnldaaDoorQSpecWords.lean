/-
  The reference's decode and Words: the list of a text's words, in new memory.
-/
import Derived.Test.YtkclapimgmnldaaDoorQWordRuns
import Derived.Test.YtkclapimgmnldaaDoorQHelp
import Derived.Test.YtkclapimgmnldaaDoorQRune
import Derived.Test.YtkclapimgmnldaaDoorQT
import Derived.Test.YtkclapimgmnldaaDoorQP
namespace Go.Proofs.YtkclapimgmnldaaDoor
set_option linter.unusedVariables false
set_option linter.unusedSimpArgs false
set_option maxRecDepth 20000
open Go.RowKit
open Go.Lib (decodeN)

/-- what the reference reckons behind k bytes -/
def vAt (v0 : Nat) (f : Nat → Nat) : Nat → Nat
  | 0 => v0
  | 1 => v0
  | k + 2 => vAt v0 f (k + 1) * 64 + f (k + 1) - 128
/-- the classes of lead bytes: size, least, the lead byte's base -/
def Cls (b0 sz least base : Nat) : Prop := (192 ≤ b0 ∧ b0 < 224 ∧ sz = 2 ∧ least = 128 ∧ base = 192) ∨ (224 ≤ b0 ∧ b0 < 240 ∧ sz = 3 ∧ least = 2048 ∧ base = 224) ∨ (240 ≤ b0 ∧ b0 < 248 ∧ sz = 4 ∧ least = 65536 ∧ base = 240)

theorem vAt_one (v0 : Nat) (f : Nat → Nat) : vAt v0 f 1 = v0 := rfl
theorem vAt_next (v0 : Nat) (f : Nat → Nat) {k : Nat} (h : 1 ≤ k) : vAt v0 f (k + 1) = vAt v0 f k * 64 + f k - 128 := by
  obtain ⟨j, rfl⟩ : ∃ j, k = j + 1 := ⟨k - 1, by omega⟩
  rfl
theorem vAt_le {v0 : Nat} {f : Nat → Nat} (h0 : v0 < 32) : ∀ k, 1 ≤ k → k ≤ 4 → (∀ j, 1 ≤ j → j < k → 128 ≤ f j ∧ f j < 192) → vAt v0 f k ≤ 8388608 := by
  intro k h1 h4 hc
  obtain rfl | rfl | rfl | rfl : k = 1 ∨ k = 2 ∨ k = 3 ∨ k = 4 := by omega
  · rw [vAt_one]; omega
  · have c1 := hc 1 (by omega) (by omega)
    rw [vAt_next v0 f (by omega), vAt_one]; omega
  · have c1 := hc 1 (by omega) (by omega)
    have c2 := hc 2 (by omega) (by omega)
    rw [vAt_next v0 f (by omega), vAt_next v0 f (by omega), vAt_one]; omega
  · have c1 := hc 1 (by omega) (by omega)
    have c2 := hc 2 (by omega) (by omega)
    have c3 := hc 3 (by omega) (by omega)
    rw [vAt_next v0 f (by omega), vAt_next v0 f (by omega), vAt_next v0 f (by omega), vAt_one]; omega

set_option maxHeartbeats 4000000 in
theorem decodeN_none (n b0 b1 b2 b3 : Nat) (h : (128 ≤ b0 ∧ b0 < 192) ∨ (248 ≤ b0 ∧ b0 < 256)) : decodeN n b0 b1 b2 b3 = (65533, 1) := by
  unfold decodeN
  repeat' split
  all_goals first | rfl | (exfalso; omega)
set_option maxHeartbeats 4000000 in
theorem decodeN_short {n b0 sz least base : Nat} (b1 b2 b3 : Nat) (h : Cls b0 sz least base) (hn : n < sz) : decodeN n b0 b1 b2 b3 = (65533, 1) := by
  unfold Cls at h
  unfold decodeN
  repeat' split
  all_goals first | rfl | (exfalso; omega)
set_option maxHeartbeats 4000000 in
theorem decodeN_stop {n b0 sz least base : Nat} {f : Nat → Nat} (h : Cls b0 sz least base) {k : Nat} (h1 : 1 ≤ k) (h2 : k < sz) (hc : f k < 128 ∨ 192 ≤ f k) (hf : ∀ j, f j < 256) : decodeN n b0 (f 1) (f 2) (f 3) = (65533, 1) := by
  unfold Cls at h
  have f1 := hf 1; have f2 := hf 2; have f3 := hf 3
  obtain rfl | rfl | rfl : k = 1 ∨ k = 2 ∨ k = 3 := by omega
  all_goals
    unfold decodeN
    repeat' split
    all_goals first | rfl | (exfalso; omega)
set_option maxHeartbeats 4000000 in
theorem decodeN_done {n b0 sz least base : Nat} {f : Nat → Nat} (h : Cls b0 sz least base) (hn : sz ≤ n) (hc : ∀ j, 1 ≤ j → j < sz → 128 ≤ f j ∧ f j < 192) :
    decodeN n b0 (f 1) (f 2) (f 3) = if vAt (b0 - base) f sz < least ∨ 1114111 < vAt (b0 - base) f sz ∨ (55296 ≤ vAt (b0 - base) f sz ∧ vAt (b0 - base) f sz < 57344) then (65533, 1) else (vAt (b0 - base) f sz, sz) := by
  rcases h with ⟨h1, h2, rfl, rfl, rfl⟩ | ⟨h1, h2, rfl, rfl, rfl⟩ | ⟨h1, h2, rfl, rfl, rfl⟩
  · have c1 := hc 1 (by omega) (by omega)
    rw [vAt_next _ f (by omega), vAt_one]
    have e : (b0 - 192) * 64 + f 1 - 128 = b0 % 32 * 64 + f 1 % 64 := by omega
    rw [e]
    unfold decodeN
    repeat' split
    all_goals first | rfl | (exfalso; omega)
  · have c1 := hc 1 (by omega) (by omega)
    have c2 := hc 2 (by omega) (by omega)
    rw [vAt_next _ f (by omega), vAt_next _ f (by omega), vAt_one]
    have e : ((b0 - 224) * 64 + f 1 - 128) * 64 + f 2 - 128 = b0 % 16 * 4096 + f 1 % 64 * 64 + f 2 % 64 := by omega
    rw [e]
    unfold decodeN
    repeat' split
    all_goals first | rfl | (exfalso; omega)
  · have c1 := hc 1 (by omega) (by omega)
    have c2 := hc 2 (by omega) (by omega)
    have c3 := hc 3 (by omega) (by omega)
    rw [vAt_next _ f (by omega), vAt_next _ f (by omega), vAt_next _ f (by omega), vAt_one]
    have e : (((b0 - 240) * 64 + f 1 - 128) * 64 + f 2 - 128) * 64 + f 3 - 128 = b0 % 8 * 262144 + f 1 % 64 * 4096 + f 2 % 64 * 64 + f 3 % 64 := by omega
    rw [e]
    unfold decodeN
    repeat' split
    all_goals first | rfl | (exfalso; omega)
open Go.RowKit
open Go.Lib (decodeN)

theorem byt_at (s : ByteArray) (p j : Nat) (h : p + j < s.size) : (s[p + j]'h).toNat = byt (s.data.toList.drop p) j := by
  unfold byt
  rw [List.getElem?_drop]
  have : s.data.toList[p + j]? = some (s[p + j]'h) := by
    have h2 : p + j < s.data.toList.length := by simpa using h
    rw [List.getElem?_eq_getElem h2]
    rfl
  rw [this]; rfl
theorem byt_lt (d : List UInt8) (j : Nat) : byt d j < 256 := by unfold byt; exact UInt8.toNat_lt _

set_option maxHeartbeats 4000000 in
theorem specDecode_walk (s : ByteArray) (p : Nat) (w : World) (hp : p < s.size) (hs : s.size ≤ 9000000000000000000) (R K : Nat) (f : Nat → Nat) (hf : ∀ j (h : p + j < s.size), (s[p + j]'h).toNat = f j) (hfl : ∀ j, f j < 256)
    (hR : decodeN (s.size - p) (f 0) (f 1) (f 2) (f 3) = (R, K)) :
    Calls Tryd.prog 43 #[.string s, .int .i64 p] w fun e w' => e = .returned (.tuple #[.int .i64 R, .int .i64 K]) ∧ w = w' := by
  have h0 : (s[p]'hp).toNat = f 0 := hf 0 (by omega)
  have hf0 := hfl 0
  by_cases c0 : f 0 < 128
  · rw [decodeN_low _ _ _ _ _ c0] at hR
    cases hR
    generalize f 0 = b0 at *
    clear hf
    go_enter Tryd.func43, Tryd.ntmps43
    go_wp2_with fail
    go_ret2
    exact ⟨rfl, rfl⟩
  · by_cases c1 : (128 ≤ f 0 ∧ f 0 < 192) ∨ (248 ≤ f 0 ∧ f 0 < 256)
    · rw [decodeN_none _ _ _ _ _ c1] at hR
      cases hR
      generalize f 0 = b0 at *
      clear hf
      rcases c1 with c1 | c1
      · have d1 : ¬ ((b0 : Int) < 128) := by omega
        have d2 : ¬ ((192 : Int) ≤ (b0 : Int)) := by omega
        have d3 : ¬ ((224 : Int) ≤ (b0 : Int)) := by omega
        have d4 : ¬ ((240 : Int) ≤ (b0 : Int)) := by omega
        go_enter Tryd.func43, Tryd.ntmps43
        go_wp2_with fail
        go_ret2
        exact ⟨rfl, rfl⟩
      · have d1 : ¬ ((b0 : Int) < 128) := by omega
        have d2 : ¬ ((b0 : Int) < 224) := by omega
        have d3 : ¬ ((b0 : Int) < 240) := by omega
        have d4 : ¬ ((b0 : Int) < 248) := by omega
        go_enter Tryd.func43, Tryd.ntmps43
        go_wp2_with fail
        go_ret2
        exact ⟨rfl, rfl⟩
    · have hcls : ∃ sz least base, Cls (f 0) sz least base := by
        have := hfl 0
        by_cases h1 : f 0 < 224
        · exact ⟨2, 128, 192, .inl ⟨by omega, h1, rfl, rfl, rfl⟩⟩
        · by_cases h2 : f 0 < 240
          · exact ⟨3, 2048, 224, .inr (.inl ⟨by omega, h2, rfl, rfl, rfl⟩)⟩
          · exact ⟨4, 65536, 240, .inr (.inr ⟨by omega, by omega, rfl, rfl, rfl⟩)⟩
      obtain ⟨sz, least, base, hcls⟩ := hcls
      have HCl := Lib.hid hcls
      have HF := Lib.hid hf
      have HFl := Lib.hid hfl
      have HR := Lib.hid hR
      have hlt : (192 ≤ f 0 ∧ f 0 < 248) := by unfold Cls at hcls; omega
      clear hf hfl hR c0 c1
      rcases hcls with ⟨h1, h2, rfl, rfl, rfl⟩ | ⟨h1, h2, rfl, rfl, rfl⟩ | ⟨h1, h2, rfl, rfl, rfl⟩
      · have HV0 : Hid (f 0 - 192 < 32) := Lib.hid (by omega)
        by_cases hn : s.size - p < 2
        · have hr := HR.out
          rw [decodeN_short _ _ _ HCl.out hn] at hr
          cases hr
          clear HR HF HFl HCl
          generalize f 0 = b0 at *
          go_enter Tryd.func43, Tryd.ntmps43
          go_wp2_with fail
          go_ret2
          exact ⟨rfl, rfl⟩
        · have hst : ((f 0 - 192 : Nat) : Int) = (f 0 : Int) - 192 := by omega
          have g0 : decide ((f 0 : Int) < 128) = false := decide_eq_false (by omega)
          have g1 : decide ((f 0 : Int) < 224) = true := decide_eq_true (by omega)
          go_enter Tryd.func43, Tryd.ntmps43
          go_wp2_with fail
          go_loopw [9, 10] (fun v i wr => wr = w ∧ ∃ k : Nat, 1 ≤ k ∧ k ≤ 2 ∧ i = .int .i64 k ∧ v = .int .i64 (vAt (f 0 - 192) f k : Nat) ∧ Hid (∀ j, 1 ≤ j → j < k → 128 ≤ f j ∧ f j < 192)) (fun v i _ => 2 - (intOf i).toNat)
          case atStart => exact ⟨rfl, 1, by omega, by omega, rfl, by rw [vAt_one, hst], Lib.hid (fun j h1 h2 => by omega)⟩
          case round =>
            obtain ⟨rfl, k, hk1, hk2, rfl, rfl, hc⟩ := hrel
            have hle := vAt_le HV0.out k hk1 (by omega) hc.out
            by_cases hk : k < 2
            · have hsk : p + k < s.size := by omega
              have hsz := HF.out k hsk
              have hfk := HFl.out k
              by_cases hck : 128 ≤ f k ∧ f k < 192
              · have hnx := vAt_next (f 0 - 192) f hk1
                have HC2 : Hid (∀ j, 1 ≤ j → j < k + 1 → 128 ≤ f j ∧ f j < 192) := Lib.hid (fun j h1 h2 => by
                  by_cases hj : j = k
                  · subst hj; exact hck
                  · exact hc.out j h1 (by omega))
                have HNX := Lib.hid (show ((vAt (f 0 - 192) f (k + 1) : Nat) : Int) = (vAt (f 0 - 192) f k : Int) * 64 + (f k : Int) - 128 by omega)
                clear hnx hc h1 h2 hlt hf0 h0 hst
                generalize vAt (f 0 - 192) f k = V at *
                generalize f k = bk at *
                go_wp2_with fail
                go_roundw
                case rel => exact ⟨trivial, k + 1, by omega, by omega, by go_num, by rw [HNX.out], HC2⟩
                case measure => simp [intOf]; omega
              · have hr := HR.out
                rw [decodeN_stop HCl.out hk1 hk (by omega) HFl.out] at hr
                cases hr
                clear HR HF HFl HCl hc hst
                generalize vAt (f 0 - 192) f k = V at *
                generalize f k = bk at *
                by_cases hb1 : bk < 128
                · go_wp2_with fail
                  go_ret2
                  exact ⟨rfl, rfl⟩
                · have hb2 : 192 ≤ bk := by omega
                  go_wp2_with fail
                  go_ret2
                  exact ⟨rfl, rfl⟩
            · obtain rfl : k = 2 := by omega
              have hr := HR.out
              rw [decodeN_done HCl.out (by omega) hc.out] at hr
              clear HR HF HFl HCl hc hst
              generalize vAt (f 0 - 192) f 2 = V at *
              by_cases hcond : V < 128 ∨ 1114111 < V ∨ (55296 ≤ V ∧ V < 57344)
              · rw [if_pos hcond] at hr
                cases hr
                go_wp2_with fail
                all_goals first
                  | (exfalso; omega)
                  | (go_ret2; exact ⟨rfl, rfl⟩)
              · rw [if_neg hcond] at hr
                cases hr
                go_wp2_with fail
                all_goals first
                  | (exfalso; omega)
                  | (go_ret2; exact ⟨rfl, rfl⟩)
      · have HV0 : Hid (f 0 - 224 < 32) := Lib.hid (by omega)
        by_cases hn : s.size - p < 3
        · have hr := HR.out
          rw [decodeN_short _ _ _ HCl.out hn] at hr
          cases hr
          clear HR HF HFl HCl
          generalize f 0 = b0 at *
          go_enter Tryd.func43, Tryd.ntmps43
          go_wp2_with fail
          go_ret2
          exact ⟨rfl, rfl⟩
        · have hst : ((f 0 - 224 : Nat) : Int) = (f 0 : Int) - 224 := by omega
          have g0 : decide ((f 0 : Int) < 128) = false := decide_eq_false (by omega)
          have g1 : decide ((f 0 : Int) < 224) = false := decide_eq_false (by omega)
          have g2 : decide ((f 0 : Int) < 240) = true := decide_eq_true (by omega)
          go_enter Tryd.func43, Tryd.ntmps43
          go_wp2_with fail
          go_loopw [9, 10] (fun v i wr => wr = w ∧ ∃ k : Nat, 1 ≤ k ∧ k ≤ 3 ∧ i = .int .i64 k ∧ v = .int .i64 (vAt (f 0 - 224) f k : Nat) ∧ Hid (∀ j, 1 ≤ j → j < k → 128 ≤ f j ∧ f j < 192)) (fun v i _ => 3 - (intOf i).toNat)
          case atStart => exact ⟨rfl, 1, by omega, by omega, rfl, by rw [vAt_one, hst], Lib.hid (fun j h1 h2 => by omega)⟩
          case round =>
            obtain ⟨rfl, k, hk1, hk2, rfl, rfl, hc⟩ := hrel
            have hle := vAt_le HV0.out k hk1 (by omega) hc.out
            by_cases hk : k < 3
            · have hsk : p + k < s.size := by omega
              have hsz := HF.out k hsk
              have hfk := HFl.out k
              by_cases hck : 128 ≤ f k ∧ f k < 192
              · have hnx := vAt_next (f 0 - 224) f hk1
                have HC2 : Hid (∀ j, 1 ≤ j → j < k + 1 → 128 ≤ f j ∧ f j < 192) := Lib.hid (fun j h1 h2 => by
                  by_cases hj : j = k
                  · subst hj; exact hck
                  · exact hc.out j h1 (by omega))
                have HNX := Lib.hid (show ((vAt (f 0 - 224) f (k + 1) : Nat) : Int) = (vAt (f 0 - 224) f k : Int) * 64 + (f k : Int) - 128 by omega)
                clear hnx hc h1 h2 hlt hf0 h0 hst
                generalize vAt (f 0 - 224) f k = V at *
                generalize f k = bk at *
                go_wp2_with fail
                go_roundw
                case rel => exact ⟨trivial, k + 1, by omega, by omega, by go_num, by rw [HNX.out], HC2⟩
                case measure => simp [intOf]; omega
              · have hr := HR.out
                rw [decodeN_stop HCl.out hk1 hk (by omega) HFl.out] at hr
                cases hr
                clear HR HF HFl HCl hc hst
                generalize vAt (f 0 - 224) f k = V at *
                generalize f k = bk at *
                by_cases hb1 : bk < 128
                · go_wp2_with fail
                  go_ret2
                  exact ⟨rfl, rfl⟩
                · have hb2 : 192 ≤ bk := by omega
                  go_wp2_with fail
                  go_ret2
                  exact ⟨rfl, rfl⟩
            · obtain rfl : k = 3 := by omega
              have hr := HR.out
              rw [decodeN_done HCl.out (by omega) hc.out] at hr
              clear HR HF HFl HCl hc hst
              generalize vAt (f 0 - 224) f 3 = V at *
              by_cases hcond : V < 2048 ∨ 1114111 < V ∨ (55296 ≤ V ∧ V < 57344)
              · rw [if_pos hcond] at hr
                cases hr
                go_wp2_with fail
                all_goals first
                  | (exfalso; omega)
                  | (go_ret2; exact ⟨rfl, rfl⟩)
              · rw [if_neg hcond] at hr
                cases hr
                go_wp2_with fail
                all_goals first
                  | (exfalso; omega)
                  | (go_ret2; exact ⟨rfl, rfl⟩)
      · have HV0 : Hid (f 0 - 240 < 32) := Lib.hid (by omega)
        by_cases hn : s.size - p < 4
        · have hr := HR.out
          rw [decodeN_short _ _ _ HCl.out hn] at hr
          cases hr
          clear HR HF HFl HCl
          generalize f 0 = b0 at *
          go_enter Tryd.func43, Tryd.ntmps43
          go_wp2_with fail
          go_ret2
          exact ⟨rfl, rfl⟩
        · have hst : ((f 0 - 240 : Nat) : Int) = (f 0 : Int) - 240 := by omega
          have g0 : decide ((f 0 : Int) < 128) = false := decide_eq_false (by omega)
          have g1 : decide ((f 0 : Int) < 224) = false := decide_eq_false (by omega)
          have g2 : decide ((f 0 : Int) < 240) = false := decide_eq_false (by omega)
          have g3 : decide ((f 0 : Int) < 248) = true := decide_eq_true (by omega)
          go_enter Tryd.func43, Tryd.ntmps43
          go_wp2_with fail
          go_loopw [9, 10] (fun v i wr => wr = w ∧ ∃ k : Nat, 1 ≤ k ∧ k ≤ 4 ∧ i = .int .i64 k ∧ v = .int .i64 (vAt (f 0 - 240) f k : Nat) ∧ Hid (∀ j, 1 ≤ j → j < k → 128 ≤ f j ∧ f j < 192)) (fun v i _ => 4 - (intOf i).toNat)
          case atStart => exact ⟨rfl, 1, by omega, by omega, rfl, by rw [vAt_one, hst], Lib.hid (fun j h1 h2 => by omega)⟩
          case round =>
            obtain ⟨rfl, k, hk1, hk2, rfl, rfl, hc⟩ := hrel
            have hle := vAt_le HV0.out k hk1 (by omega) hc.out
            by_cases hk : k < 4
            · have hsk : p + k < s.size := by omega
              have hsz := HF.out k hsk
              have hfk := HFl.out k
              by_cases hck : 128 ≤ f k ∧ f k < 192
              · have hnx := vAt_next (f 0 - 240) f hk1
                have HC2 : Hid (∀ j, 1 ≤ j → j < k + 1 → 128 ≤ f j ∧ f j < 192) := Lib.hid (fun j h1 h2 => by
                  by_cases hj : j = k
                  · subst hj; exact hck
                  · exact hc.out j h1 (by omega))
                have HNX := Lib.hid (show ((vAt (f 0 - 240) f (k + 1) : Nat) : Int) = (vAt (f 0 - 240) f k : Int) * 64 + (f k : Int) - 128 by omega)
                clear hnx hc h1 h2 hlt hf0 h0 hst
                generalize vAt (f 0 - 240) f k = V at *
                generalize f k = bk at *
                go_wp2_with fail
                go_roundw
                case rel => exact ⟨trivial, k + 1, by omega, by omega, by go_num, by rw [HNX.out], HC2⟩
                case measure => simp [intOf]; omega
              · have hr := HR.out
                rw [decodeN_stop HCl.out hk1 hk (by omega) HFl.out] at hr
                cases hr
                clear HR HF HFl HCl hc hst
                generalize vAt (f 0 - 240) f k = V at *
                generalize f k = bk at *
                by_cases hb1 : bk < 128
                · go_wp2_with fail
                  go_ret2
                  exact ⟨rfl, rfl⟩
                · have hb2 : 192 ≤ bk := by omega
                  go_wp2_with fail
                  go_ret2
                  exact ⟨rfl, rfl⟩
            · obtain rfl : k = 4 := by omega
              have hr := HR.out
              rw [decodeN_done HCl.out (by omega) hc.out] at hr
              clear HR HF HFl HCl hc hst
              generalize vAt (f 0 - 240) f 4 = V at *
              by_cases hcond : V < 65536 ∨ 1114111 < V ∨ (55296 ≤ V ∧ V < 57344)
              · rw [if_pos hcond] at hr
                cases hr
                go_wp2_with fail
                all_goals first
                  | (exfalso; omega)
                  | (go_ret2; exact ⟨rfl, rfl⟩)
              · rw [if_neg hcond] at hr
                cases hr
                go_wp2_with fail
                all_goals first
                  | (exfalso; omega)
                  | (go_ret2; exact ⟨rfl, rfl⟩)

/-- the rune at a place of a text -/
theorem specDecode_any (s : ByteArray) (p : Nat) (w : World) (hp : p < s.size) (hs : s.size ≤ 9000000000000000000) :
    Calls Tryd.prog 43 #[.string s, .int .i64 p] w fun e w' => e = .returned (.tuple #[.int .i64 (dec (s.data.toList.drop p)).1, .int .i64 (dec (s.data.toList.drop p)).2]) ∧ w = w' := by
  refine specDecode_walk s p w hp hs _ _ (byt (s.data.toList.drop p)) (byt_at s p) (byt_lt _) ?_
  have : (s.data.toList.drop p).length = s.size - p := by simp
  rw [← this]; rfl
open Go.RowKit

/-- where the reference's loop stands: the words so far, where the current one begins, the place -/
def WI (t : List UInt8) (xs : List (List UInt8)) (f k : Nat) : Prop := words t = xs ++ wordsFrom ((t.take k).drop f) (t.drop k)
theorem WI.start (t : List UInt8) : WI t [] 0 0 := by simp [WI, words]
theorem drop_ne {t : List UInt8} {k : Nat} (h : k < t.length) : t.drop k ≠ [] := fun e => by have := congrArg List.length e; simp at this; omega
theorem WI.le {t : List UInt8} {k : Nat} (hk : k < t.length) : k + (dec (t.drop k)).2 ≤ t.length := by
  have := dec_le (drop_ne hk)
  simp at this
  omega
theorem take_drop_nil (t : List UInt8) (k : Nat) : (t.take k).drop k = [] := List.drop_of_length_le (by rw [List.length_take]; omega)
theorem WI.app {t : List UInt8} {xs : List (List UInt8)} {f k : Nat} (h : WI t xs f k) (hk : k < t.length) (hf : f < k) (hs : spaceN (dec (t.drop k)).1 = true) : WI t (xs ++ [(t.take k).drop f]) (k + (dec (t.drop k)).2) (k + (dec (t.drop k)).2) := by
  unfold WI at h ⊢
  have hne : (t.take k).drop f ≠ [] := fun e => by have := congrArg List.length e; rw [List.length_drop, List.length_take, List.length_nil] at this; omega
  rw [h, wordsFrom_space _ (drop_ne hk) hs, if_neg hne, List.drop_drop, take_drop_nil]
  simp
theorem WI.skip {t : List UInt8} {xs : List (List UInt8)} {k : Nat} (h : WI t xs k k) (hk : k < t.length) (hs : spaceN (dec (t.drop k)).1 = true) : WI t xs (k + (dec (t.drop k)).2) (k + (dec (t.drop k)).2) := by
  unfold WI at h ⊢
  rw [h, wordsFrom_space _ (drop_ne hk) hs, take_drop_nil, List.drop_drop, take_drop_nil]
  simp
theorem WI.word {t : List UInt8} {xs : List (List UInt8)} {f k : Nat} (h : WI t xs f k) (hk : k < t.length) (hf : f ≤ k) (hs : spaceN (dec (t.drop k)).1 = false) : WI t xs f (k + (dec (t.drop k)).2) := by
  have hle := WI.le hk
  unfold WI at h ⊢
  rw [h, wordsFrom_word _ (drop_ne hk) hs, List.drop_drop]
  congr 2
  rw [List.take_add, List.drop_append_of_le_length (by simp; omega)]
theorem WI.fin {t : List UInt8} {xs : List (List UInt8)} {f : Nat} (h : WI t xs f t.length) : words t = xs ++ (if f < t.length then [t.drop f] else []) := by
  unfold WI at h
  rw [h, List.take_length, List.drop_length, wordsFrom_nil]
  congr 1
  by_cases hf : f < t.length
  · rw [if_pos hf, if_neg (drop_ne hf)]
  · rw [if_neg hf, if_pos (List.drop_of_length_le (by omega))]
theorem WI.count {t : List UInt8} {xs : List (List UInt8)} {f k : Nat} (h : WI t xs f k) : xs.length ≤ (words t).length := by
  unfold WI at h
  rw [h]; simp

set_option maxHeartbeats 2000000 in
theorem specWords_any (s : ByteArray) (w : World) (hs : s.size ≤ 140737488355328) (hcap : (words s.data.toList).length * 16 ≤ 140737488355328) :
    Calls Tryd.prog 29 #[.string s] w fun e w' => ∃ v, e = .returned v ∧ StrsAt w.heap.size w' v (words s.data.toList) ∧ Below w.heap.size w w' := by
  obtain ⟨i0, hi, hz0, hz1, hz2⟩ := info_parts info_str
  have hlen : s.data.toList.length = s.size := by simp
  have HLen := Lib.hid hlen
  have HDec := Lib.hid (fun p w hp => specDecode_any s p w hp (by omega))
  have HSp := Lib.hid specSpace_any
  clear hlen
  go_enter Tryd.func29, Tryd.ntmps29
  go_wp2_with fail
  go_loopw [3, 4, 5] (fun v fi i wr => ∃ (k f : Nat) (xs : List (List UInt8)), k ≤ s.size ∧ f ≤ k ∧ i = .int .i64 k ∧ fi = .int .i64 f ∧ Hid (WI s.data.toList xs f k) ∧ Hid (StrsAt w.heap.size wr v xs) ∧ Hid (Below w.heap.size w wr))
    (fun _ _ i _ => s.size - (intOf i).toNat)
  case atStart => exact ⟨0, 0, [], Nat.zero_le _, Nat.le_refl _, rfl, rfl, Lib.hid (WI.start _), Lib.hid (World.ownsRow_made _ _ _ (Nat.le_refl _) (by decide) rfl), Lib.hid ((Below.refl _ _).alloc (Nat.le_refl _) _)⟩
  case round =>
    obtain ⟨k, f, xs, hk, hfk, rfl, rfl, HW, HO, HB⟩ := hrel
    by_cases hlt : k < s.size
    · have hlt' : k < s.data.toList.length := by rw [HLen.out]; exact hlt
      have HDk := Lib.hid (fun w => HDec.out k w hlt)
      have HSk := Lib.hid (fun w => HSp.out (dec (s.data.toList.drop k)).1 w)
      have hpos := dec_pos (s.data.toList.drop k)
      have hle := WI.le hlt'
      rw [HLen.out] at hle
      cases hsp : spaceN (dec (s.data.toList.drop k)).1 with
      | false =>
        have HW2 := Lib.hid (HW.out.word hlt' hfk hsp)
        rw [hsp] at HSk
        clear hsp HW hlt'
        generalize dec (s.data.toList.drop k) = rk at *
        obtain ⟨r, m⟩ := rk
        go_wp2_with fail
        refine (HDk.out _).mono ?_
        rintro e w2 ⟨rfl, rfl⟩
        go_wp2_with fail
        refine (HSk.out _).mono ?_
        rintro e w3 ⟨rfl, rfl⟩
        go_wp2_with fail
        go_roundw
        case rel => exact ⟨k + m, f, xs, hle, by omega, by go_num, rfl, HW2, HO, HB⟩
        case measure => simp [intOf]; omega
      | true =>
        rw [hsp] at HSk
        by_cases hff : f < k
        · have hw2 := HW.out.app hlt' hff hsp
          have hcnt := hw2.count
          rw [List.length_append, List.length_singleton] at hcnt
          have HC := Lib.hid hcnt
          have HW2 := Lib.hid hw2
          clear hsp HW hlt' hw2 hcnt
          generalize dec (s.data.toList.drop k) = rk at *
          obtain ⟨r, m⟩ := rk
          go_wp2_with fail
          refine (HDk.out _).mono ?_
          rintro e w2 ⟨rfl, rfl⟩
          go_wp2_with fail
          refine (HSk.out _).mono ?_
          rintro e w3 ⟨rfl, rfl⟩
          go_wp2_with (first
            | (at_builtin; refine wpList_append_own _ rfl _ _ 30 rfl w.heap.size 9 i0 (.string ⟨#[]⟩) 1 16 (by kernel_rfl) hi hz0 hz1 hz2 rfl (by decide) _ _ _ rfl (HO.out.alloc _) ⟨wr.heap.size, 0, none⟩ 1 1 [.string (s.extract f k)] rfl rfl ?c1 ?c2 ?c3 ?c4 ?c5 ?_)
            | go_in)
          case c1 =>
            intro j u hj
            match j, hj with
            | 0, hj => simp at hj; subst hj; simp [Addr.add]
          case c2 => intro u hu; simp at hu; subst hu; rfl
          case c3 => have := HC.out; unfold maxLen; omega
          case c4 => have := HC.out; omega
          case c5 => have := HB.out.size; simp; omega
          · intro v' w1 hown' hgrow _
            have HN := Lib.hid (strs_push hown' (sv_extract _ _ _))
            have HG' := Lib.hid (lines_below HB.out HO.out hgrow)
            clear hown' hgrow
            go_wp2_with fail
            go_roundw
            case rel => exact ⟨k + m, k + m, _, hle, Nat.le_refl _, by go_num, by go_num, HW2, HN, HG'⟩
            case measure => simp [intOf]; omega
        · obtain rfl : f = k := by omega
          have HW2 := Lib.hid (HW.out.skip hlt' hsp)
          clear hsp HW hlt'
          generalize dec (s.data.toList.drop f) = rk at *
          obtain ⟨r, m⟩ := rk
          go_wp2_with fail
          refine (HDk.out _).mono ?_
          rintro e w2 ⟨rfl, rfl⟩
          go_wp2_with fail
          refine (HSk.out _).mono ?_
          rintro e w3 ⟨rfl, rfl⟩
          go_wp2_with fail
          go_roundw
          case rel => exact ⟨f + m, f + m, xs, hle, Nat.le_refl _, by go_num, by go_num, HW2, HO, HB⟩
          case measure => simp [intOf]; omega
    · obtain rfl : k = s.size := by omega
      have hend := HW.out
      rw [← HLen.out] at hend
      have hend := hend.fin
      rw [HLen.out] at hend
      clear HW
      by_cases hf : f < s.size
      · rw [if_pos hf] at hend
        have hcnt : xs.length + 1 ≤ (words s.data.toList).length := by rw [hend]; simp
        have HC := Lib.hid hcnt
        have HE := Lib.hid hend
        have hx : Value.string (s.extract f s.size) = sv (s.data.toList.drop f) := by
          rw [sv_extract, List.take_of_length_le (by simp)]
        have HX := Lib.hid hx
        clear hcnt hend hx
        go_wp2_with (first
          | (at_builtin; refine wpList_append_own _ rfl _ _ 30 rfl w.heap.size 9 i0 (.string ⟨#[]⟩) 1 16 (by kernel_rfl) hi hz0 hz1 hz2 rfl (by decide) _ _ _ rfl (HO.out.alloc _) ⟨wr.heap.size, 0, none⟩ 1 1 [.string (s.extract f s.size)] rfl rfl ?c1 ?c2 ?c3 ?c4 ?c5 ?_)
          | go_in)
        case c1 =>
          intro j u hj
          match j, hj with
          | 0, hj => simp at hj; subst hj; simp [Addr.add]
        case c2 => intro u hu; simp at hu; subst hu; rfl
        case c3 => have := HC.out; unfold maxLen; omega
        case c4 => have := HC.out; omega
        case c5 => have := HB.out.size; simp; omega
        · intro v' w1 hown' hgrow _
          have HN := Lib.hid (strs_push hown' HX.out)
          have HG' := Lib.hid (lines_below HB.out HO.out hgrow)
          clear hown' hgrow
          go_wp2_with fail
          go_ret
          exact ⟨_, rfl, by rw [HE.out]; exact HN.out, HG'.out⟩
      · rw [if_neg hf, List.append_nil] at hend
        have HE := Lib.hid hend
        clear hend
        go_wp2_with fail
        go_ret
        exact ⟨_, rfl, by rw [HE.out]; exact HO.out, HB.out⟩
end Go.Proofs.YtkclapimgmnldaaDoor
