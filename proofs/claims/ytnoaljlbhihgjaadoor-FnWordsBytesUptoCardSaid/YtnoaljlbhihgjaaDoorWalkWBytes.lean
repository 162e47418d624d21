/-
  The walk of FnWordsBytes.
-/
import Derived.Test.YtnoaljlbhihgjaaDoorTrue
import Derived.Test.YtnoaljlbhihgjaaDoorTrueW
import Derived.Test.YtnoaljlbhihgjaaDoorGiveBW
namespace Go.Proofs.YtnoaljlbhihgjaaDoor
set_option linter.unusedVariables false
set_option linter.unusedSimpArgs false
set_option maxRecDepth 20000
open Go.RowKit

section
variable {base : Nat} {w : World} {E : Nat → Addr} {s : ByteArray}
set_option maxHeartbeats 400000 in
theorem fnWordsBytes_walk (hE : EnvT w.heap.size w E) (hs : s.size ≤ 4194304) : Calls Tryd.prog 4 #[.string s] w (TrueB w) := by
  cases hl : wordedB s.data.toList true 0 0 with
  | false =>
    have HL := Lib.hid (worded_t w hs false hl)
    clear hl hE
    go_enter Tryd.func4, Tryd.ntmps4
    go_wp2_with fail
    refine HL.out.mono ?_
    rintro e w1 ⟨rfl, hb⟩
    go_wp2_with fail
    go_ret
    exact ⟨rfl, hb⟩
  | true =>
    have HL := Lib.hid (worded_t w hs true hl)
    have hf := wordedB_of hl
    have HI := Lib.hid (fun w' (h : EnvT w.heap.size w' E) => implWordsBytes_any (s := s) h.e h.t hs hf.2)
    have HE := Lib.hid hE
    have HS := Lib.hid (fun w' => specWordsG s w' hs)
    clear hl hE hf
    go_enter Tryd.func4, Tryd.ntmps4
    go_wp2_with fail
    refine HL.out.mono ?_
    rintro e w1 ⟨rfl, hb1⟩
    have HB1 := Lib.hid hb1
    clear hb1
    go_wp2_with fail
    refine (HI.out _ (HE.out.later HB1.out)).mono ?_
    rintro e w2 ⟨v, rfl, hst, hb2⟩
    have HB2 := Lib.hid (below_step HB1.out hb2)
    have HST := Lib.hid hst.strs
    clear hst hb2 HB1
    go_wp2_with fail
    refine (HS.out _).mono ?_
    rintro e w3 ⟨v', rfl, hst', hb3⟩
    have HB3 := Lib.hid (below_step HB2.out hb3)
    have HST1 := Lib.hid (HST.out.below hb3)
    have HST2 := Lib.hid hst'.strs
    clear hst' hb3 HB2
    go_wp2_with fail
    refine (same_yes _ _ _ _ HST1.out HST2.out).mono ?_
    rintro e w4 ⟨rfl, n, rfl⟩
    go_wp2_with fail
    go_ret
    exact ⟨rfl, bel_drew HB3.out n⟩
end
end Go.Proofs.YtnoaljlbhihgjaaDoor
