/-
  The reference's decode: the rune at a place of a text.
-/
import Derived.Test.YtkafojdjadnfaaaDoorWords
import Derived.Test.YtkafojdjadnfaaaDoorHelp
namespace Go.Proofs.YtkafojdjadnfaaaDoor
set_option linter.unusedVariables false
set_option linter.unusedSimpArgs false
set_option maxRecDepth 20000
open Go.RowKit
open Go.Lib (decodeN)

/-- what the reference reckons behind k bytes -/
def vAt (v0 : Nat) (f : Nat → Nat) : Nat → Nat
  | 0 => v0
  | 1 => v0
  | k + 2 => vAt v0 f (k + 1) * 64 + f (k + 1) - 128
/-- the classes of lead bytes: size, least, the lead byte's base -/
def Cls (b0 sz least base : Nat) : Prop := (192 ≤ b0 ∧ b0 < 224 ∧ sz = 2 ∧ least = 128 ∧ base = 192) ∨ (224 ≤ b0 ∧ b0 < 240 ∧ sz = 3 ∧ least = 2048 ∧ base = 224) ∨ (240 ≤ b0 ∧ b0 < 248 ∧ sz = 4 ∧ least = 65536 ∧ base = 240)

theorem vAt_one (v0 : Nat) (f : Nat → Nat) : vAt v0 f 1 = v0 := rfl
theorem vAt_next (v0 : Nat) (f : Nat → Nat) {k : Nat} (h : 1 ≤ k) : vAt v0 f (k + 1) = vAt v0 f k * 64 + f k - 128 := by
  obtain ⟨j, rfl⟩ : ∃ j, k = j + 1 := ⟨k - 1, by omega⟩
  rfl
theorem vAt_le {v0 : Nat} {f : Nat → Nat} (h0 : v0 < 32) : ∀ k, 1 ≤ k → k ≤ 4 → (∀ j, 1 ≤ j → j < k → 128 ≤ f j ∧ f j < 192) → vAt v0 f k ≤ 8388608 := by
  intro k h1 h4 hc
  obtain rfl | rfl | rfl | rfl : k = 1 ∨ k = 2 ∨ k = 3 ∨ k = 4 := by omega
  · rw [vAt_one]; omega
  · have c1 := hc 1 (by omega) (by omega)
    rw [vAt_next v0 f (by omega), vAt_one]; omega
  · have c1 := hc 1 (by omega) (by omega)
    have c2 := hc 2 (by omega) (by omega)
    rw [vAt_next v0 f (by omega), vAt_next v0 f (by omega), vAt_one]; omega
  · have c1 := hc 1 (by omega) (by omega)
    have c2 := hc 2 (by omega) (by omega)
    have c3 := hc 3 (by omega) (by omega)
    rw [vAt_next v0 f (by omega), vAt_next v0 f (by omega), vAt_next v0 f (by omega), vAt_one]; omega

set_option maxHeartbeats 4000000 in
theorem decodeN_none (n b0 b1 b2 b3 : Nat) (h : (128 ≤ b0 ∧ b0 < 192) ∨ (248 ≤ b0 ∧ b0 < 256)) : decodeN n b0 b1 b2 b3 = (65533, 1) := by
  unfold decodeN
  repeat' split
  all_goals first | rfl | (exfalso; omega)
set_option maxHeartbeats 4000000 in
theorem decodeN_short {n b0 sz least base : Nat} (b1 b2 b3 : Nat) (h : Cls b0 sz least base) (hn : n < sz) : decodeN n b0 b1 b2 b3 = (65533, 1) := by
  unfold Cls at h
  unfold decodeN
  repeat' split
  all_goals first | rfl | (exfalso; omega)
set_option maxHeartbeats 4000000 in
theorem decodeN_stop {n b0 sz least base : Nat} {f : Nat → Nat} (h : Cls b0 sz least base) {k : Nat} (h1 : 1 ≤ k) (h2 : k < sz) (hc : f k < 128 ∨ 192 ≤ f k) (hf : ∀ j, f j < 256) : decodeN n b0 (f 1) (f 2) (f 3) = (65533, 1) := by
  unfold Cls at h
  have f1 := hf 1; have f2 := hf 2; have f3 := hf 3
  obtain rfl | rfl | rfl : k = 1 ∨ k = 2 ∨ k = 3 := by omega
  all_goals
    unfold decodeN
    repeat' split
    all_goals first | rfl | (exfalso; omega)
set_option maxHeartbeats 4000000 in
theorem decodeN_done {n b0 sz least base : Nat} {f : Nat → Nat} (h : Cls b0 sz least base) (hn : sz ≤ n) (hc : ∀ j, 1 ≤ j → j < sz → 128 ≤ f j ∧ f j < 192) :
    decodeN n b0 (f 1) (f 2) (f 3) = if vAt (b0 - base) f sz < least ∨ 1114111 < vAt (b0 - base) f sz ∨ (55296 ≤ vAt (b0 - base) f sz ∧ vAt (b0 - base) f sz < 57344) then (65533, 1) else (vAt (b0 - base) f sz, sz) := by
  rcases h with ⟨h1, h2, rfl, rfl, rfl⟩ | ⟨h1, h2, rfl, rfl, rfl⟩ | ⟨h1, h2, rfl, rfl, rfl⟩
  · have c1 := hc 1 (by omega) (by omega)
    rw [vAt_next _ f (by omega), vAt_one]
    have e : (b0 - 192) * 64 + f 1 - 128 = b0 % 32 * 64 + f 1 % 64 := by omega
    rw [e]
    unfold decodeN
    repeat' split
    all_goals first | rfl | (exfalso; omega)
  · have c1 := hc 1 (by omega) (by omega)
    have c2 := hc 2 (by omega) (by omega)
    rw [vAt_next _ f (by omega), vAt_next _ f (by omega), vAt_one]
    have e : ((b0 - 224) * 64 + f 1 - 128) * 64 + f 2 - 128 = b0 % 16 * 4096 + f 1 % 64 * 64 + f 2 % 64 := by omega
    rw [e]
    unfold decodeN
    repeat' split
    all_goals first | rfl | (exfalso; omega)
  · have c1 := hc 1 (by omega) (by omega)
    have c2 := hc 2 (by omega) (by omega)
    have c3 := hc 3 (by omega) (by omega)
    rw [vAt_next _ f (by omega), vAt_next _ f (by omega), vAt_next _ f (by omega), vAt_one]
    have e : (((b0 - 240) * 64 + f 1 - 128) * 64 + f 2 - 128) * 64 + f 3 - 128 = b0 % 8 * 262144 + f 1 % 64 * 4096 + f 2 % 64 * 64 + f 3 % 64 := by omega
    rw [e]
    unfold decodeN
    repeat' split
    all_goals first | rfl | (exfalso; omega)
end Go.Proofs.YtkafojdjadnfaaaDoor
