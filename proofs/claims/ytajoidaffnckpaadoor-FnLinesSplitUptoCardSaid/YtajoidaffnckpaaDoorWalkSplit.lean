/-
  The walk of FnLinesSplit.
-/
import Derived.Test.YtajoidaffnckpaaDoorTrue
import Derived.Test.YtajoidaffnckpaaDoorSplit
namespace Go.Proofs.YtajoidaffnckpaaDoor
set_option linter.unusedVariables false
set_option linter.unusedSimpArgs false
open Go.RowKit

section
variable {base : Nat} {w : World} {E : Nat → Addr} {s : ByteArray}
set_option maxHeartbeats 400000 in
theorem fnLinesSplit_walk (hE : Env w.heap.size w E) (hs : s.size ≤ 4194304) : Calls Tryd.prog 5 #[.string s] w (TrueB w) := by
  cases hl : linedB s.data.toList true 0 0 with
  | false =>
    have HL := Lib.hid (lined_t w hs false hl)
    clear hl hE
    go_enter Tryd.func5, Tryd.ntmps5
    go_wp2_with fail
    refine HL.out.mono ?_
    rintro e w1 ⟨rfl, hb⟩
    go_wp2_with fail
    go_ret
    exact ⟨rfl, hb⟩
  | true =>
    have HL := Lib.hid (lined_t w hs true hl)
    have hf := LinedF.of hl
    have HI := Lib.hid (fun w' (h : Env w.heap.size w' E) => implLinesSplit_any (s := s) h hs hf.roomy)
    rw [hf.tokens] at HI
    have HE := Lib.hid hE
    have HS := Lib.hid (fun w' => specLinesG s w' hs)
    clear hl hE hf
    go_enter Tryd.func5, Tryd.ntmps5
    go_wp2_with fail
    refine HL.out.mono ?_
    rintro e w1 ⟨rfl, hb1⟩
    have HB1 := Lib.hid hb1
    clear hb1
    go_wp2_with fail
    refine (HI.out _ (HE.out.later HB1.out)).mono ?_
    rintro e w2 ⟨v, rfl, hst, hb2⟩
    have HB2 := Lib.hid (below_step HB1.out hb2)
    have HST := Lib.hid hst.strs
    clear hst hb2 HB1
    go_wp2_with fail
    refine (HS.out _).mono ?_
    rintro e w3 ⟨v', rfl, hst', hb3⟩
    have HB3 := Lib.hid (below_step HB2.out hb3)
    have HST1 := Lib.hid (HST.out.below hb3)
    have HST2 := Lib.hid hst'.strs
    clear hst' hb3 HB2
    go_wp2_with fail
    refine (same_yes _ _ _ _ HST1.out HST2.out).mono ?_
    rintro e w4 ⟨rfl, n, rfl⟩
    go_wp2_with fail
    go_ret
    exact ⟨rfl, below_drewN HB3.out n⟩
end
end Go.Proofs.YtajoidaffnckpaaDoor
