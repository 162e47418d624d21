/-
  The walk of FnLinesWithin.
-/
import Derived.Test.YtkafojdjadnfaaaDoorTrue
import Derived.Test.YtkafojdjadnfaaaDoorWithin
namespace Go.Proofs.YtkafojdjadnfaaaDoor
set_option linter.unusedVariables false
set_option linter.unusedSimpArgs false
set_option maxRecDepth 20000
open Go.RowKit

/-- a slice of so many trues -/
def Trues (w : World) (v : Value) (n : Nat) : Prop :=
  ∃ a cap, v = .slice a n cap ∧ n ≤ cap ∧ cap ≤ 9223372036854775807 ∧ ∀ i, i < n → ∃ b o, a = some ⟨b, o, none⟩ ∧ w.cell? ⟨b, o + i, none⟩ = some (.bool true)
theorem TruesAt.trues {base : Nat} {w : World} {v : Value} {n : Nat} (h : TruesAt base w v n) : Trues w v n := by
  obtain ⟨h1, h2⟩ := h
  rcases h2 with ⟨rfl, h2⟩ | ⟨g, cap, cur, rfl, h3, h4, h5, h6, h7, h8⟩
  · have : n = 0 := h2
    subst this
    exact ⟨none, 0, rfl, Nat.le_refl _, by omega, fun i h => by omega⟩
  · unfold maxLen at h6
    refine ⟨_, cap, rfl, h5, by omega, fun i hi => ⟨g, 0, rfl, ?_⟩⟩
    have h9 := World.ownsRow.cells (w := w) (base := base) (e := 4) (size := 1) (v := .slice (some ⟨g, 0, none⟩) n cap) (n := n) (xs := List.replicate n (.bool true)) ⟨h1, .inr ⟨g, cap, cur, rfl, h3, h4, h5, by unfold maxLen; exact h6, h7, h8⟩⟩ rfl i (.bool true) (by rw [List.getElem?_replicate, if_pos hi])
    have hplain : (⟨g, 0, none⟩ : Addr).add i = ⟨g, 0 + i, none⟩ := by unfold Addr.add; split <;> simp_all
    rw [hplain] at h9
    exact h9

section
variable {w : World} {E : Nat → Addr} {s : ByteArray}
set_option maxRecDepth 100000 in
set_option maxHeartbeats 2000000 in
theorem fnLinesWithin_t (N : Nat) (most : Int) (hE : Env w.heap.size w E) (hs : s.size ≤ 4194304) (h0 : 3 ≤ N) (h1 : N ≤ 10000) (h2 : most ≤ (N : Int)) :
    Calls Tryd.prog 4 #[.string s, .int .i64 (N : Int), .int .i64 most] w (TrueB w) := by
  have hb0 : decide ((N : Int) < 3) = false := decide_eq_false (by omega)
  have hb1 : decide (10000 < (N : Int)) = false := decide_eq_false (by omega)
  have hb2 : decide ((N : Int) < most) = false := decide_eq_false (by omega)
  cases hl : linedB s.data.toList false (N : Int) most with
  | false =>
    have HL := Lib.hid (fun w' => lined_r false (N : Int) most w' hs false hl)
    clear hE hl h0 h1 h2
    go_enter Tryd.func4, Tryd.ntmps4
    go_wp2_with fail
    refine (HL.out _).mono ?_
    rintro e w1 ⟨rfl, hb⟩
    go_wp2_with fail
    go_ret
    exact ⟨rfl, hb⟩
  | true =>
    have HL := Lib.hid (fun w' => lined_r false (N : Int) most w' hs true hl)
    have hf := LinedF.of hl
    have elim : limitN false (N : Int) most = N := by simp [limitN]; omega
    have hro := hf.roomy
    rw [elim] at hro
    have HA := Lib.hid (fun w' (h : Env w.heap.size w' E) => linesWithin_any N most h hs h1 h2 (by omega) hro)
    rw [hf.tokens] at HA
    have HS := Lib.hid (fun w' => specLinesG s w' hs)
    have HE := Lib.hid hE
    clear hE hl hf h0 h1 h2 elim hro
    generalize lines s.data.toList = ls at *
    go_enter Tryd.func4, Tryd.ntmps4
    go_wp2_with fail
    refine (HL.out _).mono ?_
    rintro e w1 ⟨rfl, hb⟩
    have HB1 := Lib.hid hb
    clear hb
    go_wp2_with fail
    refine (HA.out _ (HE.out.later HB1.out)).mono ?_
    rintro e w2 ⟨va, vb, rfl, hsa, htr, hb⟩
    have HB2 := Lib.hid (below_step HB1.out hb)
    have H2 := Lib.hid hsa.strs
    obtain ⟨a, cap, rfl, hc1, hc2, hcell⟩ := htr.trues
    have HC := Lib.hid hcell
    obtain ⟨aa, ca, rfl, hd1, hd2, hd3⟩ := hsa.strs
    clear hsa htr hb HB1 hcell hd3
    go_wp2_with fail
    go_loopw [39] (fun i wr => wr = w2 ∧ ∃ j : Nat, j ≤ ls.length ∧ i = .int .i64 j) (fun i _ => ls.length - (intOf i).toNat)
    case atStart => exact ⟨rfl, 0, Nat.zero_le _, rfl⟩
    case round =>
      obtain ⟨rfl, j, hj, rfl⟩ := hrel
      by_cases hjl : j < ls.length
      · obtain ⟨b, o, rfl, hc⟩ := HC.out j hjl
        go_wp2_with fail
        go_roundw
        case rel => exact ⟨trivial, j + 1, by omega, by go_num⟩
        case measure => simp [intOf]; omega
      · obtain rfl : j = ls.length := by omega
        go_wp2_with fail
        refine (HS.out _).mono ?_
        rintro e w3 ⟨v', rfl, hst', hb3⟩
        have HB3 := Lib.hid (below_step HB2.out hb3)
        have HST1 := Lib.hid (H2.out.below hb3)
        have HST2 := Lib.hid hst'.strs
        clear hst' hb3 HB2
        go_wp2_with fail
        refine (same_yes _ _ _ _ HST1.out HST2.out).mono ?_
        rintro e w4 ⟨rfl, n, rfl⟩
        go_wp2_with fail
        go_ret
        exact ⟨rfl, below_drewN HB3.out n⟩

theorem fnLinesWithin_walk (cap most : Int) (hE : Env w.heap.size w E) (hs : s.size ≤ 4194304) :
    Calls Tryd.prog 4 #[.string s, .int .i64 cap, .int .i64 most] w (TrueB w) := by
  by_cases h0 : cap < 3
  · have hb0 : decide (cap < 3) = true := decide_eq_true h0
    clear hE
    go_enter Tryd.func4, Tryd.ntmps4
    go_wp2_with fail
    go_ret
    exact ⟨rfl, Below.refl _ _⟩
  · have hb0 : decide (cap < 3) = false := decide_eq_false h0
    by_cases h1 : 10000 < cap
    · have hb1 : decide (10000 < cap) = true := decide_eq_true h1
      clear hE
      go_enter Tryd.func4, Tryd.ntmps4
      go_wp2_with fail
      go_ret
      exact ⟨rfl, Below.refl _ _⟩
    · have hb1 : decide (10000 < cap) = false := decide_eq_false h1
      by_cases h2 : cap < most
      · have hb2 : decide (cap < most) = true := decide_eq_true h2
        clear hE
        go_enter Tryd.func4, Tryd.ntmps4
        go_wp2_with fail
        go_ret
        exact ⟨rfl, Below.refl _ _⟩
      · obtain ⟨N, rfl⟩ : ∃ N : Nat, cap = (N : Int) := ⟨cap.toNat, by omega⟩
        exact fnLinesWithin_t N most hE hs (by omega) (by omega) (by omega)
end
end Go.Proofs.YtkafojdjadnfaaaDoor
