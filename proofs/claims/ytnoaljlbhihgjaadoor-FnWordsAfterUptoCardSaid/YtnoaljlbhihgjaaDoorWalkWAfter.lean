/-
  The walk of FnWordsAfter.
-/
import Derived.Test.YtnoaljlbhihgjaaDoorAfterW
import Derived.Test.YtnoaljlbhihgjaaDoorLaw
import Derived.Test.YtnoaljlbhihgjaaDoorTrueW
namespace Go.Proofs.YtnoaljlbhihgjaaDoor
set_option linter.unusedVariables false
set_option linter.unusedSimpArgs false
set_option maxRecDepth 20000
open Go.RowKit

theorem falses_cells {base : Nat} {w : World} {v : Value} {k : Nat} (h : FalsesAt base w v k) : ∃ a cap, v = .slice a k cap ∧ k ≤ cap ∧ cap ≤ 9223372036854775807 ∧ ∀ i, i < k → ∃ b o, a = some ⟨b, o, none⟩ ∧ w.cell? ⟨b, o + i, none⟩ = some (.bool false) := by
  have h' := h
  obtain ⟨h1, h2⟩ := h
  rcases h2 with ⟨rfl, rfl⟩ | ⟨g, cap, cur, rfl, h3, h4, h5, h6, h7, h8⟩
  · exact ⟨none, 0, rfl, Nat.le_refl _, by omega, fun i hi => by omega⟩
  · refine ⟨_, cap, rfl, h5, by unfold maxLen at h6; omega, fun i hi => ⟨g, 0, rfl, ?_⟩⟩
    have h9 := World.ownsRow.cells (w := w) h' (g := g) rfl i (.bool false) (by simp [hi])
    have hplain : (⟨g, 0, none⟩ : Addr).add i = ⟨g, 0 + i, none⟩ := by unfold Addr.add; split <;> simp_all
    rw [hplain] at h9
    exact h9

section
variable {w : World} {E : Nat → Addr} {s : ByteArray} {pa : Option Addr} {pcs : List Int} {pc : Nat} {tog d : Bool} {c m : Int}

set_option maxRecDepth 100000 in
set_option maxHeartbeats 2000000 in
theorem fnWordsAfter_t (n : Int) (hE : EnvT w.heap.size w E) (hi : Ints w pa pcs pc) (hs : s.size ≤ 4194304) (hpn : pcs.length ≤ 4194304) (hl : wordedB s.data.toList d c m = true) (hn : n ≤ 1000) (hn0 : -9223372036854775808 ≤ n) :
    Calls Tryd.prog 3 #[srcL s pa pcs.length pc tog false, roomV d c m, .int .i64 n] w (TrueB w) := by
  have HL := Lib.hid (fun w' => worded_any s d c m w' hs)
  rw [hl] at HL
  have hf := wordedF_of hl
  have HA := Lib.hid (fun w' pa' pc' pl' (h1 : EnvT w.heap.size w' E) (h2 : PcsAt w.heap.size w' pa' pcs pc' pl') => wordsAfter_any (tog := tog) d false n h1.e h1.t h2 hs hf hn hn0)
  have HS := Lib.hid (fun w' (h : Ints w' pa pcs pc) => toSource_any s pa pcs pc tog false w' h (by omega))
  have HI := Lib.hid hi
  have HE := Lib.hid hE
  have hnb : decide (1000 < n) = false := by rw [decide_eq_false_iff_not]; omega
  clear hl hf hi hE
  go_enter Tryd.func3, Tryd.ntmps3
  go_wp2_with fail
  refine (HL.out _).mono ?_
  rintro e w1 ⟨rfl, hb1⟩
  have hb1' : Below (w.heap.size + 2) (lawW w s pa pcs.length pc tog false d c m) w1 := by simpa using hb1
  have HB1 := Lib.hid hb1'
  obtain ⟨a0, a1, a2, a3, a4, a5, a6⟩ := law_cells hb1'
  clear hb1 hb1'
  go_wp2_with fail
  go_region_held3 (fun w' => w'.cell? ⟨w.heap.size, 0, none⟩ = some (.string s) ∧ w'.cell? ⟨w.heap.size, 1, none⟩ = some (.slice pa pcs.length pc) ∧ w'.cell? ⟨w.heap.size, 2, none⟩ = some (.bool tog) ∧ w'.cell? ⟨w.heap.size, 3, none⟩ = some (.bool false) ∧
      w'.cell? ⟨w.heap.size + 1, 0, none⟩ = some (.bool d) ∧ w'.cell? ⟨w.heap.size + 1, 1, none⟩ = some (.int .i64 c) ∧ w'.cell? ⟨w.heap.size + 1, 2, none⟩ = some (.int .i64 m))
    (first
      | exact law_cells HB4.out
      | exact law_cells HB3.out
      | exact law_cells HB2.out
      | go_keep)
    (first
      | (go_at_call 17; refine (HS.out _ (HI.out.below (law_base HB1.out.drew))).mono ?_; rintro e w2 ⟨pa2, pc2, pl2, rfl, hp2, hb2⟩; have HB2 := Lib.hid (law_step HB1.out.drew hb2); have HP2 := Lib.hid hp2; clear hp2 hb2)
      | (go_at_call 18; refine (toRoom_any _ _ _ _).mono ?_; rintro e w3 ⟨rfl, hb3⟩; have HB3 := Lib.hid (law_step HB2.out hb3); have HP3 := Lib.hid (pcs_later HP2.out hb3); clear hb3)
      | (go_at_call 16; refine (HA.out _ _ _ _ (HE.out.later (law_base HB3.out)) (pcs_frame HP3.out (law_base HB1.out).size (fun _ _ => rfl) (Nat.le_refl _))).mono ?_; rintro e w4 ⟨v, rfl, hfa, hoff⟩; have HB4 := Lib.hid (HB3.out.trans (hoff.below (by have := HB3.out.size; simp at this; omega) (fun k hk => by have h1 := (HP2.out.hlt k hk).1; have h2 := HB1.out.size; simp at h1 h2; omega))); have HF := Lib.hid hfa; clear hfa hoff))
  obtain ⟨a, cap, rfl, hk1, hk2, hk3⟩ := falses_cells HF.out
  have H3 := Lib.hid hk3
  have HBB := Lib.hid (law_base HB4.out)
  have hnt : (n.toNat : Int) = max n 0 := by omega
  have HNT := Lib.hid hnt
  have hnn : n.toNat ≤ 1000 := by omega
  clear hk3 HB1 HB2 HB3 HB4 HF HP2 HP3 HA HS HI HL HE a0 a1 a2 a3 a4 a5 a6 hnt
  generalize n.toNat = K at *
  go_wp2_with fail
  go_loop [31, 9] (fun i _ => ∃ k : Nat, k ≤ K ∧ i = .int .i64 k) (fun i _ => K - (intOf i).toNat)
  case atStart => exact ⟨0, Nat.zero_le _, rfl⟩
  case round =>
    obtain ⟨k, hk, rfl⟩ := hrel
    by_cases hlt : k < K
    · obtain ⟨b, o, rfl, hc⟩ := H3.out k hlt
      go_wp2_with fail
      go_round
      case rel => exact ⟨k + 1, by omega, by go_num⟩
      case measure => simp [intOf]; omega
    · obtain rfl : k = K := by omega
      have hnt := HNT.out
      have heq : ((k : Int) == max n 0) = true := by rw [hnt]; simp
      clear hnt
      go_wp2_with fail
      go_ret
      exact ⟨rfl, HBB.out⟩

set_option maxHeartbeats 1000000 in
theorem fnWordsAfter_walk (n : Int) (br : Bool) (hE : EnvT w.heap.size w E) (hi : Ints w pa pcs pc) (hs : s.size ≤ 4194304) (hpn : pcs.length ≤ 4194304) (hn0 : -9223372036854775808 ≤ n) :
    Calls Tryd.prog 3 #[srcL s pa pcs.length pc tog br, roomV d c m, .int .i64 n] w (TrueB w) := by
  cases br with
  | true =>
    clear hE hi
    go_enter Tryd.func3, Tryd.ntmps3
    go_wp2_with fail
    go_ret
    exact ⟨rfl, lawW_below w s pa pcs.length pc tog true d c m⟩
  | false =>
    cases hl : wordedB s.data.toList d c m with
    | false =>
      have HL := Lib.hid (fun w' => worded_any s d c m w' hs)
      rw [hl] at HL
      clear hE hi hl
      go_enter Tryd.func3, Tryd.ntmps3
      go_wp2_with fail
      refine (HL.out _).mono ?_
      rintro e w1 ⟨rfl, hb1⟩
      go_wp2_with fail
      go_ret
      exact ⟨rfl, below_step (lawW_below w s pa pcs.length pc tog false d c m) hb1⟩
    | true =>
      by_cases hn : n ≤ 1000
      · exact fnWordsAfter_t n hE hi hs hpn hl hn hn0
      · have HL := Lib.hid (fun w' => worded_any s d c m w' hs)
        rw [hl] at HL
        have hnb : decide (1000 < n) = true := by rw [decide_eq_true_eq]; omega
        clear hE hi hl hn
        go_enter Tryd.func3, Tryd.ntmps3
        go_wp2_with fail
        refine (HL.out _).mono ?_
        rintro e w1 ⟨rfl, hb1⟩
        go_wp2_with fail
        go_ret
        exact ⟨rfl, below_step (lawW_below w s pa pcs.length pc tog false d c m) hb1⟩
end
end Go.Proofs.YtnoaljlbhihgjaaDoor
