/-
  first: the index of the first text with at least so many bytes; a list's beginning.
-/
import Derived.Test.YtkafojdjadnfaaaDoorHelp
namespace Go.Proofs.YtkafojdjadnfaaaDoor
set_option linter.unusedVariables false
set_option linter.unusedSimpArgs false
set_option maxRecDepth 20000
open Go.RowKit

/-- the index of the first text with at least n bytes, or the number of them -/
def firstI (xs : List (List UInt8)) (n : Int) : Nat := xs.findIdx fun x => decide (n ≤ (x.length : Int))
theorem firstI_le (xs : List (List UInt8)) (n : Int) : firstI xs n ≤ xs.length := List.findIdx_le_length
theorem firstI_at {xs : List (List UInt8)} {n : Int} (h : firstI xs n < xs.length) : n ≤ ((xs[firstI xs n]).length : Int) := by
  have := List.findIdx_getElem (p := fun x : List UInt8 => decide (n ≤ (x.length : Int))) (xs := xs) (w := h)
  exact of_decide_eq_true this
theorem firstI_is {xs : List (List UInt8)} {n : Int} {k : Nat} (h : k < xs.length) (h1 : n ≤ ((xs[k]).length : Int)) (h2 : ∀ j (hj : j < k), ((xs[j]'(by omega)).length : Int) < n) : firstI xs n = k := by
  unfold firstI
  rw [List.findIdx_eq h]
  exact ⟨by simpa using h1, fun j hj => by have := h2 j hj; simp; omega⟩
theorem firstI_none {xs : List (List UInt8)} {n : Int} (h : ∀ j (hj : j < xs.length), ((xs[j]).length : Int) < n) : firstI xs n = xs.length := by
  unfold firstI
  rw [List.findIdx_eq_length]
  intro x hx
  obtain ⟨j, hj, rfl⟩ := List.mem_iff_getElem.1 hx
  have := h j hj
  simp; omega

/-- a list's beginning -/
theorem Strs.take {w : World} {a : Option Addr} {n cap : Nat} {xs : List (List UInt8)} (h : Strs w (.slice a n cap) xs) (k : Nat) (hk : k ≤ xs.length) : Strs w (.slice a k cap) (xs.take k) := by
  obtain ⟨a', cap', e, h1, h2, h3⟩ := h
  simp only [Value.slice.injEq] at e
  obtain ⟨rfl, rfl, rfl⟩ := e
  refine ⟨a, cap, by rw [List.length_take, Nat.min_eq_left hk], by simp; omega, h2, fun i x hx => ?_⟩
  rw [List.getElem?_take] at hx
  split at hx
  · exact h3 i x hx
  · cases hx

set_option maxHeartbeats 1000000 in
theorem first_any (v : Value) (xs : List (List UInt8)) (n : Int) (w : World) (h : Strs w v xs) (hl : ∀ x ∈ xs, x.length ≤ 9000000000000000000) :
    Calls Tryd.prog 21 #[v, .int .i64 n] w fun e w' => e = .returned (.int .i64 (firstI xs n : Nat)) ∧ w = w' := by
  obtain ⟨a, cap, rfl, h1, h2, h3⟩ := h
  have HL := Lib.hid hl
  have H3 := Lib.hid h3
  clear hl h3
  go_enter Tryd.func21, Tryd.ntmps21
  go_wp2_with fail
  go_loop [9, 5] (fun i _ => ∃ k : Nat, k ≤ xs.length ∧ i = .int .i64 k ∧ Hid (∀ j (hj : j < k) (hj' : j < xs.length), ((xs[j]).length : Int) < n)) (fun i _ => xs.length - (intOf i).toNat)
  case atStart => exact ⟨0, Nat.zero_le _, rfl, Lib.hid (fun j hj => by omega)⟩
  case round =>
    obtain ⟨k, hk, rfl, hb⟩ := hrel
    by_cases hlt : k < xs.length
    · obtain ⟨b, o, rfl, hc⟩ := H3.out k xs[k] (List.getElem?_eq_getElem hlt)
      have hle := HL.out xs[k] (List.getElem_mem hlt)
      by_cases hn : n ≤ (xs[k].length : Int)
      · have hr := firstI_is hlt hn (fun j hj => hb.out j hj (by omega))
        have HR := Lib.hid hr
        clear hr hb
        generalize xs[k] = x at *
        go_wp2_with fail
        go_ret
        exact ⟨ret_int (by rw [HR.out]), rfl⟩
      · have hnew : ∀ j (hj : j < k + 1) (hj' : j < xs.length), ((xs[j]).length : Int) < n := fun j hj hj' => by
          by_cases hjk : j = k
          · subst hjk; omega
          · exact hb.out j (by omega) hj'
        have HN := Lib.hid hnew
        have hn' : (xs[k].length : Int) < n := by omega
        clear hnew hb hn
        generalize xs[k] = x at *
        go_wp2_with fail
        go_round
        case rel => exact ⟨k + 1, by omega, by go_num, HN⟩
        case measure => simp [intOf]; omega
    · obtain rfl : k = xs.length := by omega
      have hr := firstI_none (fun j hj => hb.out j hj hj)
      have HR := Lib.hid hr
      clear hr hb
      go_wp2_with fail
      go_ret
      exact ⟨ret_int (by rw [HR.out]), rfl⟩
end Go.Proofs.YtkafojdjadnfaaaDoor
