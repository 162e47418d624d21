/-
  The walk of FnRoomGreater.
-/
import Derived.Test.YtajoidaffnckpaaDoorTrue
import Derived.Test.YtajoidaffnckpaaDoorFrom
namespace Go.Proofs.YtajoidaffnckpaaDoor
set_option linter.unusedVariables false
set_option linter.unusedSimpArgs false
open Go.RowKit

set_option maxHeartbeats 400000 in
theorem whole_any (s : ByteArray) (w : World) : Calls Tryd.prog 34 #[.string s] w fun e w' => e = .returned (srcV s none 0 0 false false) ∧ Below w.heap.size w w' := by
  go_enter Tryd.func34, Tryd.ntmps34
  go_wp2
  exact bodyPost_ret (v := srcV s none 0 0 false false) (by simp [results, Tryd.results34, go_sem]) rfl ⟨rfl, (Below.refl _ _).alloc (Nat.le_refl _) _⟩

theorem lined_swap {t : List UInt8} {small great : Int} (h0 : 0 ≤ small) (h1 : small < great) (h : LinedF t false great small) : LinedF t false small great := by
  have e : limitN false small great = limitN false great small := by simp [limitN]; omega
  have hz := (sizedB_cases h.sized).resolve_left (by simp)
  exact ⟨by simp [sizedB]; omega, by rw [e]; exact h.three, h.last, by rw [e]; exact h.roomy⟩

section
variable {w : World} {E : Nat → Addr} {s : ByteArray}
set_option maxHeartbeats 1000000 in
theorem fnRoomGreater_walk (small great : Int) (hE : EnvC w.heap.size w E) (hs : s.size ≤ 4194304) :
    Calls Tryd.prog 14 #[.string s, .int .i64 small, .int .i64 great] w (TrueB w) := by
  by_cases h0 : small < 0
  · clear hE
    go_enter Tryd.func14, Tryd.ntmps14
    go_wp2_with fail
    go_ret
    exact ⟨rfl, Below.refl _ _⟩
  · have hb0 : decide (small < 0) = false := decide_eq_false h0
    by_cases h1 : 1000000 < great
    · clear hE
      go_enter Tryd.func14, Tryd.ntmps14
      go_wp2_with fail
      go_ret
      exact ⟨rfl, Below.refl _ _⟩
    · have hb1 : decide (1000000 < great) = false := decide_eq_false h1
      by_cases h2 : great ≤ small
      · clear hE
        go_enter Tryd.func14, Tryd.ntmps14
        go_wp2_with fail
        go_ret
        exact ⟨rfl, Below.refl _ _⟩
      · have hb2 : decide (great ≤ small) = false := decide_eq_false h2
        cases hl : linedB s.data.toList false great small with
        | false =>
          have HL := Lib.hid (fun w' => lined_r false great small w' hs false hl)
          clear hE hl h0 h1 h2
          go_enter Tryd.func14, Tryd.ntmps14
          go_wp2_with fail
          refine (HL.out _).mono ?_
          rintro e w1 ⟨rfl, hb⟩
          go_wp2_with fail
          go_ret
          exact ⟨rfl, hb⟩
        | true =>
          have HL := Lib.hid (fun w' => lined_r false great small w' hs true hl)
          have hf := LinedF.of hl
          have HA := Lib.hid (fun w' (h1 : EnvC w.heap.size w' E) => linesFrom_fit (s := s) (tog := false) false false h1 (PcsAt.none _ w') hs hf)
          have HA2 := Lib.hid (fun w' (h1 : EnvC w.heap.size w' E) => linesFrom_fit (s := s) (tog := false) false false h1 (PcsAt.none _ w') hs (lined_swap (by omega) (by omega) hf))
          have HS := Lib.hid (fun w' => specLinesG s w' hs)
          have HE := Lib.hid hE
          clear hE hl hf h0 h1 h2
          generalize lines s.data.toList = ls at *
          go_enter Tryd.func14, Tryd.ntmps14
          go_wp2_with fail
          refine (HL.out _).mono ?_
          rintro e w1 ⟨rfl, hb⟩
          have HB1 := Lib.hid hb
          clear hb
          go_wp2_with fail
          refine (HS.out _).mono ?_
          rintro e w2 ⟨v2, rfl, hst, hb⟩
          have HB2 := Lib.hid (below_step HB1.out hb)
          have H2 := Lib.hid hst.strs
          clear hst hb HB1
          go_wp2_with fail
          refine (whole_any _ _).mono ?_
          rintro e w3 ⟨rfl, hb⟩
          have HB3 := Lib.hid (below_step HB2.out hb)
          have H3 := Lib.hid (H2.out.below hb)
          clear hb HB2 H2
          go_wp2_with fail
          refine (HA.out _ (HE.out.later HB3.out)).mono ?_
          rintro e w4 ⟨v4, rfl, hst, hoff⟩
          have hb := off_nil hoff
          have HB4 := Lib.hid (below_step HB3.out hb)
          have H4 := Lib.hid (H3.out.below hb)
          have K4 := Lib.hid hst.strs
          clear hst hb hoff HB3 H3
          go_wp2_with fail
          refine (whole_any _ _).mono ?_
          rintro e w5 ⟨rfl, hb⟩
          have HB5 := Lib.hid (below_step HB4.out hb)
          have H5 := Lib.hid (H4.out.below hb)
          have K5 := Lib.hid (K4.out.below hb)
          clear hb HB4 H4 K4
          go_wp2_with fail
          refine (HA2.out _ (HE.out.later HB5.out)).mono ?_
          rintro e w6 ⟨v6, rfl, hst, hoff⟩
          have hb := off_nil hoff
          have HB6 := Lib.hid (below_step HB5.out hb)
          have H6 := Lib.hid (H5.out.below hb)
          have K6 := Lib.hid (K5.out.below hb)
          have L6 := Lib.hid hst.strs
          clear hst hb hoff HB5 H5 K5
          go_wp2_with fail
          refine (same_yes _ _ _ _ K6.out H6.out).mono ?_
          rintro e w7 ⟨rfl, n, rfl⟩
          have HB7 := Lib.hid (below_drewN HB6.out n)
          have H7 : Hid (Strs (w6.drewN n) v2 ls) := H6.out
          have L7 : Hid (Strs (w6.drewN n) v6 ls) := L6.out
          clear HB6 H6 K6 L6
          generalize w6.drewN n = w7 at *
          go_wp2_with fail
          refine (same_yes _ _ _ _ L7.out H7.out).mono ?_
          rintro e w8 ⟨rfl, n, rfl⟩
          go_wp2_with fail
          go_ret
          exact ⟨rfl, below_drewN HB7.out n⟩
end
end Go.Proofs.YtajoidaffnckpaaDoor
