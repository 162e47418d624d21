/-
  The walk of FnLinesBut.
-/
import Derived.Test.YtkafojdjadnfaaaDoorTrue
import Derived.Test.YtkafojdjadnfaaaDoorBut
import Derived.Deep.RegionHeld3
namespace Go.Proofs.YtkafojdjadnfaaaDoor
set_option linter.unusedVariables false
set_option linter.unusedSimpArgs false
set_option maxRecDepth 20000
open Go.RowKit

section
variable {w : World} {E : Nat → Addr} {s : ByteArray}
/-- a list's rest -/
theorem Strs.rest {w : World} {b o n cap k : Nat} {xs : List (List UInt8)} (h : Strs w (.slice (some ⟨b, o, none⟩) n cap) xs) (hk : k ≤ n) : Strs w (.slice (some ⟨b, o + k, none⟩) (n - k) (cap - k)) (xs.drop k) := by
  obtain ⟨a', cap', e, h1, h2, h3⟩ := h
  simp only [Value.slice.injEq] at e
  obtain ⟨rfl, rfl, rfl⟩ := e
  refine ⟨_, _, by rw [List.length_drop], by rw [List.length_drop]; omega, by omega, fun i x hx => ?_⟩
  rw [List.getElem?_drop] at hx
  obtain ⟨b', o', e, hc⟩ := h3 (k + i) x hx
  simp only [Option.some.injEq, Addr.mk.injEq, and_true] at e
  obtain ⟨rfl, rfl⟩ := e
  exact ⟨b, o + k, rfl, by rw [Nat.add_assoc]; exact hc⟩
theorem Strs.over {w : World} {a : Option Addr} {n cap k c : Nat} {xs : List (List UInt8)} (h : Strs w (.slice a n cap) xs) (hk : n ≤ k) (hc : c ≤ 9223372036854775807) (a' : Option Addr) : Strs w (.slice a' (n - k) c) (xs.drop k) := by
  obtain ⟨a'', cap', e, h1, h2, h3⟩ := h
  simp only [Value.slice.injEq] at e
  obtain ⟨rfl, rfl, rfl⟩ := e
  rw [List.drop_of_length_le hk, Nat.sub_eq_zero_of_le hk]
  exact ⟨a', c, rfl, Nat.zero_le _, hc, fun i x hx => by simp at hx⟩
theorem strs_nil (w : World) (a : Option Addr) (c : Nat) (hc : c ≤ 9223372036854775807) : Strs w (.slice a 0 c) [] := ⟨a, c, rfl, Nat.zero_le _, hc, fun i x hx => by simp at hx⟩
theorem StrsAt.cases {base : Nat} {w : World} {v : Value} {xs : List (List UInt8)} (h : StrsAt base w v xs) : (v = .slice none 0 0 ∧ xs = []) ∨ ∃ g cap, v = .slice (some ⟨g, 0, none⟩) xs.length cap ∧ xs.length ≤ cap ∧ cap ≤ 9223372036854775807 := by
  obtain ⟨a, cap, e, h1, h2, h3⟩ := h.strs
  obtain ⟨h4, h5⟩ := h
  rcases h5 with ⟨rfl, h5⟩ | ⟨g, cap', cur, rfl, h6⟩
  · exact .inl ⟨rfl, List.length_eq_zero_iff.1 h5⟩
  · simp only [Value.slice.injEq] at e
    obtain ⟨rfl, -, rfl⟩ := e
    exact .inr ⟨g, cap', rfl, h1, h2⟩

set_option maxRecDepth 100000 in
set_option maxHeartbeats 1000000 in
theorem fnLinesBut_t (n : Int) (hE : Env w.heap.size w E) (hs : s.size ≤ 4194304) (hn : n ≤ 100000) (hn0 : -9223372036854775808 ≤ n) (hl : linedB s.data.toList true 0 0 = true) : Calls Tryd.prog 3 #[.string s, .int .i64 n] w (TrueB w) := by
  have HL := Lib.hid (lined_t w hs true hl)
  have hf := LinedF.of hl
  have HI := Lib.hid (fun w' (h : Env w.heap.size w' E) => implLinesBut_any (s := s) n h hs hf.roomy hn hn0)
  rw [hf.tokens] at HI
  have HE := Lib.hid hE
  have HS := Lib.hid (fun w' => specLinesG s w' hs)
  have hlen : s.data.toList.length = s.size := by simp
  have hll := lines_len s.data.toList
  rw [hlen] at hll
  clear hl hE hf hlen
  generalize lines s.data.toList = ls at *
  have hng : decide (100000 < n) = false := decide_eq_false (by omega)
  go_enter Tryd.func3, Tryd.ntmps3
  go_wp2_with fail
  refine HL.out.mono ?_
  rintro e w1 ⟨rfl, hb1⟩
  have HB1 := Lib.hid hb1
  clear hb1
  go_wp2_with fail
  refine (HS.out _).mono ?_
  rintro e w3 ⟨v', rfl, hst', hb3⟩
  have HB3 := Lib.hid (below_step HB1.out hb3)
  have HST2 := Lib.hid hst'.strs
  have hcs := hst'.cases
  clear hst' hb3
  have HI3 := Lib.hid (HI.out w3.drew (HE.out.later HB3.out.drew))
  clear HI HE HL HS HB1
  have hmax : max n 0 = ((n.toNat : Nat) : Int) := by omega
  obtain ⟨K, hK⟩ : ∃ K : Nat, K = min n.toNat ls.length := ⟨_, rfl⟩
  have hmin : min ((n.toNat : Nat) : Int) (ls.length : Int) = (K : Int) := by omega
  have hdr : ls.drop n.toNat = ls.drop K := by
    by_cases h : n.toNat ≤ ls.length
    · rw [show K = n.toNat by omega]
    · rw [List.drop_of_length_le (by omega), List.drop_of_length_le (by omega)]
  rw [hdr] at HI3
  have hKl : K ≤ ls.length := by omega
  clear hK hdr
  generalize n.toNat = m at *
  have hk0 : (0 : Int) ≤ (K : Int) := by omega
  have hk1 : (K : Int) ≤ (ls.length : Int) := by omega
  rcases hcs with ⟨rfl, rfl⟩ | ⟨g, cap, rfl, hc1, hc2⟩
  · obtain rfl : K = 0 := by simpa using hKl
    have hmin0 : min (m : Int) 0 = 0 := by omega
    clear hmin hk0 hk1 hKl
    go_wp2_with fail
    go_region_held3 (fun _ => True)
      (first | trivial | go_keep)
      (first
        | (go_at_call 18; refine HI3.out.mono ?_; rintro e w4 ⟨v4, rfl, hst4, hb4⟩; have HB4 := Lib.hid (below_step HB3.out.drew hb4); have HST4 := Lib.hid hst4.strs; have HST5 := Lib.hid (HST2.out.drew.below hb4); clear hst4 hb4)
        | (go_at_call 17; refine (same_yes _ _ _ _ HST4.out (Strs.over HST5.out (Nat.zero_le _) (by omega) _)).mono ?_; rintro e w5 ⟨rfl, q, rfl⟩))
    all_goals
      all_goals
        go_wp2_with fail
        go_ret
        exact ⟨rfl, below_drewN HB4.out _⟩
  · have hk2 : K ≤ cap := by omega
    by_cases hcap : K = cap
    · have hlc : ls.length = K := by omega
      subst hcap
      rw [List.drop_of_length_le (Nat.le_of_eq hlc)] at HI3
      rw [hlc] at HST2 hmin hk1 ⊢
      clear hc1 hk2 hKl hk1 hlc hll
      go_wp2_with fail
      go_region_held3 (fun _ => True)
        (first | trivial | go_keep)
        (first
          | (go_at_call 18; refine HI3.out.mono ?_; rintro e w4 ⟨v4, rfl, hst4, hb4⟩; have HB4 := Lib.hid (below_step HB3.out.drew hb4); have HST4 := Lib.hid hst4.strs; clear hst4 hb4)
          | (go_at_call 17; refine (same_yes _ _ _ _ HST4.out (strs_nil _ _ _ (by omega))).mono ?_; rintro e w5 ⟨rfl, q, rfl⟩))
      all_goals
        go_wp2_with fail
        go_ret
        exact ⟨rfl, below_drewN HB4.out _⟩
    · have hcap2 : ¬ cap = K := fun h => hcap h.symm
      go_wp2_with fail
      go_region_held3 (fun _ => True)
        (first | trivial | go_keep)
        (first
          | (go_at_call 18; refine HI3.out.mono ?_; rintro e w4 ⟨v4, rfl, hst4, hb4⟩; have HB4 := Lib.hid (below_step HB3.out.drew hb4); have HST4 := Lib.hid hst4.strs; have HST5 := Lib.hid (HST2.out.drew.below hb4); clear hst4 hb4)
          | (go_at_call 17; refine (same_yes _ _ _ _ HST4.out ((by have := Strs.rest HST5.out hKl; rw [Nat.zero_add] at this; exact this))).mono ?_; rintro e w5 ⟨rfl, q, rfl⟩))
      all_goals
        go_wp2_with fail
        go_ret
        exact ⟨rfl, below_drewN HB4.out _⟩

set_option maxHeartbeats 400000 in
theorem fnLinesBut_walk (n : Int) (hE : Env w.heap.size w E) (hs : s.size ≤ 4194304) (hn0 : -9223372036854775808 ≤ n) : Calls Tryd.prog 3 #[.string s, .int .i64 n] w (TrueB w) := by
  cases hl : linedB s.data.toList true 0 0 with
  | false =>
    have HL := Lib.hid (lined_t w hs false hl)
    clear hl hE
    go_enter Tryd.func3, Tryd.ntmps3
    go_wp2_with fail
    refine HL.out.mono ?_
    rintro e w1 ⟨rfl, hb⟩
    go_wp2_with fail
    go_ret
    exact ⟨rfl, hb⟩
  | true =>
    by_cases hn : n ≤ 100000
    · exact fnLinesBut_t n hE hs hn hn0 hl
    · have HL := Lib.hid (lined_t w hs true hl)
      have hng : decide (100000 < n) = true := decide_eq_true (by omega)
      clear hl hE
      go_enter Tryd.func3, Tryd.ntmps3
      go_wp2_with fail
      refine HL.out.mono ?_
      rintro e w1 ⟨rfl, hb⟩
      go_wp2_with fail
      go_ret
      exact ⟨rfl, hb⟩
end
end Go.Proofs.YtkafojdjadnfaaaDoor
