/-
  The walks of FnSplitStarted and FnExactSplitLate.
-/
import Derived.Test.YtnoaljlbhihgjaaDoorLateS
import Derived.Test.YtnoaljlbhihgjaaDoorTrue
namespace Go.Proofs.YtnoaljlbhihgjaaDoor
set_option linter.unusedVariables false
set_option linter.unusedSimpArgs false
set_option maxRecDepth 20000
open Go.RowKit

section
variable {w : World} {E : Nat → Addr} {s : ByteArray}

set_option maxHeartbeats 1000000 in
theorem fnSplitStarted_walk (n : Int) (hE : Env w.heap.size w E) (hs : s.size ≤ 140737488355328) (hn : n ≤ 9223372036854775807) (hn0 : -9223372036854775808 ≤ n) :
    Calls Tryd.prog 10 #[.string s, .int .i64 n] w (TrueB w) := by
  by_cases hbig : 100000 < n
  · have hb : decide (100000 < n) = true := decide_eq_true hbig
    clear hE
    go_enter Tryd.func10, Tryd.ntmps10
    go_wp2_with fail
    go_ret
    exact ⟨rfl, Below.refl _ _⟩
  · have hb : decide (100000 < n) = false := by rw [decide_eq_false_iff_not]; exact hbig
    have HL := Lib.hid (splitLate_any (s := s) n hE hs hn hn0)
    clear hE hbig
    go_enter Tryd.func10, Tryd.ntmps10
    go_wp2_with fail
    refine HL.out.mono ?_
    rintro e w2 ⟨rfl, hb2⟩
    have HB2 := Lib.hid hb2
    clear hb2
    go_wp2_with fail
    all_goals
      go_ret
      exact ⟨ret_b (by simp), HB2.out⟩

set_option maxHeartbeats 1000000 in
theorem fnExactSplitLate_walk (n : Int) (hE : Env w.heap.size w E) (hs : s.size ≤ 140737488355328) (hn : n ≤ 9223372036854775807) (hn0 : -9223372036854775808 ≤ n) :
    Calls Tryd.prog 9 #[.string s, .int .i64 n] w (TrueB w) := by
  by_cases hbig : 1048576 < s.size
  · clear hE
    go_enter Tryd.func9, Tryd.ntmps9
    go_wp2_with fail
    go_ret
    exact ⟨rfl, Below.refl _ _⟩
  · have HL := Lib.hid (splitLate_any (s := s) n hE hs hn hn0)
    clear hE
    go_enter Tryd.func9, Tryd.ntmps9
    go_wp2_with (go_at_call 28; go_in)
    refine HL.out.mono ?_
    rintro e w2 ⟨rfl, hb2⟩
    have HB2 := Lib.hid hb2
    clear hb2
    cases hd : decide (0 < n) with
    | true =>
      go_wp2_with fail
      go_ret
      exact ⟨rfl, HB2.out⟩
    | false =>
      go_wp2_with fail
      go_ret
      exact ⟨rfl, HB2.out⟩
end
end Go.Proofs.YtnoaljlbhihgjaaDoor
