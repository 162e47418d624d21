/-
  The walk of FnSplitTwice.
-/
import Derived.Test.YtnoaljlbhihgjaaDoorTwiceS
import Derived.Test.YtnoaljlbhihgjaaDoorTrueW
namespace Go.Proofs.YtnoaljlbhihgjaaDoor
set_option linter.unusedVariables false
set_option linter.unusedSimpArgs false
set_option maxRecDepth 20000
open Go.RowKit

section
variable {w : World} {E : Nat → Addr} {s : ByteArray}
theorem box_b {w : World} {o : Obj} {w' : World} (hb : Below (w.alloc o).heap.size (w.alloc o) w') : Below w.heap.size w w' := below_step ((Below.refl _ _).alloc (Nat.le_refl _) _) hb

set_option maxHeartbeats 1000000 in
theorem fnSplitTwice_walk (b : Bool) (hE : EnvT w.heap.size w E) (hs : s.size ≤ 4194304) : Calls Tryd.prog 8 #[.string s, .bool b] w (TrueB w) := by
  cases b with
  | true =>
    cases hl : wordedB s.data.toList true 0 0 with
    | false =>
      have HL := Lib.hid (fun w' => worded_t w' hs false hl)
      clear hl hE
      go_enter Tryd.func8, Tryd.ntmps8
      go_wp2_with fail
      refine (HL.out _).mono ?_
      rintro e w1 ⟨rfl, hb⟩
      have HB1 := Lib.hid (box_b hb)
      clear hb
      go_wp2_with fail
      go_ret
      exact ⟨rfl, HB1.out⟩
    | true =>
      have HL := Lib.hid (fun w' => worded_t w' hs true hl)
      have hf := wordedB_of hl
      have HI := Lib.hid (fun w' (h : EnvT w.heap.size w' E) => implSplitTwice_t (s := s) h.e h.t hs hf.2)
      have HE := Lib.hid hE
      have HS := Lib.hid (fun w' => specWordsG s w' hs)
      clear hl hE hf
      go_enter Tryd.func8, Tryd.ntmps8
      go_wp2_with fail
      refine (HL.out _).mono ?_
      rintro e w1 ⟨rfl, hb⟩
      have HB1 := Lib.hid (box_b hb)
      clear hb
      go_wp2_with fail
      refine (HI.out _ (HE.out.later HB1.out)).mono ?_
      rintro e w2 ⟨v, rfl, hst, hb2⟩
      have HB2 := Lib.hid (below_step HB1.out hb2)
      have HST := Lib.hid hst.strs
      clear hst hb2 HB1
      go_wp2_with fail
      refine (HS.out _).mono ?_
      rintro e w3 ⟨v', rfl, hst', hb3⟩
      have HB3 := Lib.hid (below_step HB2.out hb3)
      have HST1 := Lib.hid (HST.out.below hb3)
      have HST2 := Lib.hid hst'.strs
      clear hst' hb3 HB2
      go_wp2_with fail
      refine (same_yes _ _ _ _ HST1.out HST2.out).mono ?_
      rintro e w4 ⟨rfl, n, rfl⟩
      go_wp2_with fail
      go_ret
      exact ⟨rfl, bel_drew HB3.out n⟩
  | false =>
    cases hl : linedB s.data.toList true 0 0 with
    | false =>
      have HL := Lib.hid (fun w' => lined_t w' hs false hl)
      clear hl hE
      go_enter Tryd.func8, Tryd.ntmps8
      go_wp2_with fail
      refine (HL.out _).mono ?_
      rintro e w1 ⟨rfl, hb⟩
      have HB1 := Lib.hid (box_b hb)
      clear hb
      go_wp2_with fail
      go_ret
      exact ⟨rfl, HB1.out⟩
    | true =>
      have HL := Lib.hid (fun w' => lined_t w' hs true hl)
      have hf := LinedF.of hl
      have HI := Lib.hid (fun w' (h : EnvT w.heap.size w' E) => implSplitTwice_f (s := s) h.e h.t hs hf.roomy)
      rw [hf.tokens] at HI
      have HE := Lib.hid hE
      have HS := Lib.hid (fun w' => specLinesG s w' hs)
      clear hl hE hf
      go_enter Tryd.func8, Tryd.ntmps8
      go_wp2_with fail
      refine (HL.out _).mono ?_
      rintro e w1 ⟨rfl, hb⟩
      have HB1 := Lib.hid (box_b hb)
      clear hb
      go_wp2_with fail
      refine (HI.out _ (HE.out.later HB1.out)).mono ?_
      rintro e w2 ⟨v, rfl, hst, hb2⟩
      have HB2 := Lib.hid (below_step HB1.out hb2)
      have HST := Lib.hid hst.strs
      clear hst hb2 HB1
      go_wp2_with fail
      refine (HS.out _).mono ?_
      rintro e w3 ⟨v', rfl, hst', hb3⟩
      have HB3 := Lib.hid (below_step HB2.out hb3)
      have HST1 := Lib.hid (HST.out.below hb3)
      have HST2 := Lib.hid hst'.strs
      clear hst' hb3 HB2
      go_wp2_with fail
      refine (same_yes _ _ _ _ HST1.out HST2.out).mono ?_
      rintro e w4 ⟨rfl, n, rfl⟩
      go_wp2_with fail
      go_ret
      exact ⟨rfl, bel_drew HB3.out n⟩
end
end Go.Proofs.YtnoaljlbhihgjaaDoor
