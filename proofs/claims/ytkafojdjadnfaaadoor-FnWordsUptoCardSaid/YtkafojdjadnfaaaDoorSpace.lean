/-
  bufio.isSpace: a rune is a space.
-/
import Derived.Test.YtkafojdjadnfaaaDoorRune
import Derived.Test.YtkafojdjadnfaaaDoorHelp
namespace Go.Proofs.YtkafojdjadnfaaaDoor
set_option linter.unusedVariables false
set_option linter.unusedSimpArgs false
set_option maxRecDepth 20000
open Go.RowKit

theorem space_yes {r : Nat} (h : (9 ≤ r ∧ r ≤ 13) ∨ r = 32 ∨ r = 133 ∨ r = 160 ∨ r = 5760 ∨ (8192 ≤ r ∧ r ≤ 8202) ∨ r = 8232 ∨ r = 8233 ∨ r = 8239 ∨ r = 8287 ∨ r = 12288) : true = spaceN r := by
  unfold spaceN; rw [decide_eq_true h]
theorem space_no {r : Nat} (h : ¬ ((9 ≤ r ∧ r ≤ 13) ∨ r = 32 ∨ r = 133 ∨ r = 160 ∨ r = 5760 ∨ (8192 ≤ r ∧ r ≤ 8202) ∨ r = 8232 ∨ r = 8233 ∨ r = 8239 ∨ r = 8287 ∨ r = 12288)) : false = spaceN r := by
  unfold spaceN; rw [decide_eq_false h]

set_option maxHeartbeats 1000000 in
theorem isSpace_any (r : Nat) (w : World) : Calls Tryd.prog 58 #[.int .i32 (r : Int)] w fun e w' => e = .returned (.bool (spaceN r)) ∧ w = w' := by
  have HY := Lib.hid (@space_yes r)
  have HN := Lib.hid (@space_no r)
  generalize spaceN r = k at *
  go_enter Tryd.func58, Tryd.ntmps58
  go_wp2
  all_goals
    go_ret
    refine ⟨ret_b ?_, rfl⟩
    try simp only [beq_iff_eq, beq_eq_false_iff_ne, ne_eq] at *
    first
      | (refine HY.out ?_; omega)
      | (refine HN.out ?_; omega)

set_option maxHeartbeats 1000000 in
theorem specSpace_any (r : Nat) (w : World) : Calls Tryd.prog 49 #[.int .i64 (r : Int)] w fun e w' => e = .returned (.bool (spaceN r)) ∧ w = w' := by
  have HY := Lib.hid (@space_yes r)
  have HN := Lib.hid (@space_no r)
  generalize spaceN r = k at *
  go_enter Tryd.func49, Tryd.ntmps49
  go_wp2
  all_goals
    go_ret
    refine ⟨ret_b ?_, rfl⟩
    try simp only [beq_iff_eq, beq_eq_false_iff_ne, ne_eq] at *
    first
      | (refine HY.out ?_; omega)
      | (refine HN.out ?_; omega)
end Go.Proofs.YtkafojdjadnfaaaDoor
