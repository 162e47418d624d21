/-
  The walk of FnBufferStarted.
-/
import Derived.Test.YtkghgjihaepnfaaDoorLate
import Derived.Test.YtkghgjihaepnfaaDoorWalkA
namespace Go.Proofs.YtkghgjihaepnfaaDoor
set_option linter.unusedVariables false
set_option linter.unusedSimpArgs false
open Go.RowKit

section
variable {w : World} {E : Nat → Addr} {s : ByteArray}
abbrev roomF (c m : Int) : Obj := .cells #[.bool false, .int .i64 c, .int .i64 m] 29

set_option maxHeartbeats 1000000 in
theorem fnBufferStarted_walk (n : Int) (d : Bool) (c m : Int) (hE : Env w.heap.size w E) (hs : s.size ≤ 140737488355328) (hn : n ≤ 9223372036854775807) (hn0 : -9223372036854775808 ≤ n) :
    Calls Tryd.prog 5 #[.string s, .int .i64 n, roomV d c m] w (TrueB w) := by
  by_cases hbig : 100000 < n
  · clear hE
    go_enter Tryd.func5, Tryd.ntmps5
    go_wp2_with fail
    go_ret
    exact ⟨rfl, (Below.refl _ _).alloc (Nat.le_refl _) _⟩
  · have hb : decide (100000 < n) = false := by rw [decide_eq_false_iff_not]; exact hbig
    cases hsz : sizedB false c m with
    | false =>
      have HZ := Lib.hid (fun w => sized_any false c m w)
      rw [hsz] at HZ
      clear hE hsz hbig
      go_enter Tryd.func5, Tryd.ntmps5
      go_wp2_with fail
      refine (HZ.out _).mono ?_
      rintro e w1 ⟨rfl, rfl⟩
      go_wp2_with fail
      go_ret
      exact ⟨rfl, ((Below.refl _ _).alloc (Nat.le_refl _) _).alloc (by simp) _⟩
    | true =>
      have HZ := Lib.hid (fun w => sized_any false c m w)
      rw [hsz] at HZ
      have hc := (sizedB_cases hsz).resolve_left (by simp)
      have hbx : Below w.heap.size w ((w.alloc (roomF c m)).alloc (roomF c m)) := ((Below.refl _ _).alloc (Nat.le_refl _) _).alloc (by simp) _
      have HL := Lib.hid (bufferLate_any (s := s) n c m (hE.later hbx) hs hn hn0 hc.2.1)
      have HB := Lib.hid hbx
      clear hE hsz hbig hc hbx
      go_enter Tryd.func5, Tryd.ntmps5
      go_wp2_with fail
      refine (HZ.out _).mono ?_
      rintro e w1 ⟨rfl, rfl⟩
      go_wp2_with fail
      refine HL.out.mono ?_
      rintro e w2 ⟨rfl, hb2⟩
      have HB2 := Lib.hid (below_step HB.out hb2)
      clear hb2
      go_wp2_with fail
      all_goals
        go_ret
        exact ⟨ret_b (by simp), HB2.out⟩
end
end Go.Proofs.YtkghgjihaepnfaaDoor
