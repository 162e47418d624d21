/-
  Out of a row's list of nine errors: what the walks lean on that ask for an error's number.
-/
import Derived.Test.YtkclapimgmnldaaDoorEnv
import Derived.Test.YtkclapimgmnldaaDoorCode
namespace Go.Proofs.YtkclapimgmnldaaDoor
set_option linter.unusedVariables false
set_option linter.unusedSimpArgs false
set_option maxRecDepth 20000
open Go.ChangeShapes Go.WideShapes Go.ChangeAt Go.RowKit

def list9 : List (String × Nat × List UInt8) := [("io.EOF", 6, [69, 79, 70]),
  ("io.ErrNoProgress", 8, [109, 117, 108, 116, 105, 112, 108, 101, 32, 82, 101, 97, 100, 32, 99, 97, 108, 108, 115, 32, 114, 101, 116, 117, 114, 110, 32, 110, 111, 32, 100, 97, 116, 97, 32, 111, 114, 32, 101, 114, 114, 111, 114]),
  ("bufio.ErrTooLong", 2, [98, 117, 102, 105, 111, 46, 83, 99, 97, 110, 110, 101, 114, 58, 32, 116, 111, 107, 101, 110, 32, 116, 111, 111, 32, 108, 111, 110, 103]),
  ("bufio.ErrNegativeAdvance", 3, [98, 117, 102, 105, 111, 46, 83, 99, 97, 110, 110, 101, 114, 58, 32, 83, 112, 108, 105, 116, 70, 117, 110, 99, 32, 114, 101, 116, 117, 114, 110, 115, 32, 110, 101, 103, 97, 116, 105, 118, 101, 32, 97, 100, 118, 97, 110, 99, 101, 32, 99, 111, 117, 110, 116]),
  ("bufio.ErrAdvanceTooFar", 4, [98, 117, 102, 105, 111, 46, 83, 99, 97, 110, 110, 101, 114, 58, 32, 83, 112, 108, 105, 116, 70, 117, 110, 99, 32, 114, 101, 116, 117, 114, 110, 115, 32, 97, 100, 118, 97, 110, 99, 101, 32, 99, 111, 117, 110, 116, 32, 98, 101, 121, 111, 110, 100, 32, 105, 110, 112, 117, 116]),
  ("bufio.ErrBadReadCount", 7, [98, 117, 102, 105, 111, 46, 83, 99, 97, 110, 110, 101, 114, 58, 32, 82, 101, 97, 100, 32, 114, 101, 116, 117, 114, 110, 101, 100, 32, 105, 109, 112, 111, 115, 115, 105, 98, 108, 101, 32, 99, 111, 117, 110, 116]),
  ("bufio.ErrFinalToken", 1, [102, 105, 110, 97, 108, 32, 116, 111, 107, 101, 110]),
  ("loop.example/lib-g01189/impl.errSplit", 0, [115, 112, 108, 105, 116]),
  ("loop.example/lib-g01189/impl.errRead", 5, [114, 101, 97, 100])]
theorem list9_globals : ∀ x ∈ list9, Tryd.prog.globalNamed x.1 = some x.2.1 ∧ (Tryd.prog.globals[x.2.1]?).map (·.type) = some 83 := by
  intro x hx
  simp only [list9, List.mem_cons, List.not_mem_nil, or_false] at hx
  rcases hx with rfl | rfl | rfl | rfl | rfl | rfl | rfl | rfl | rfl <;> exact ⟨by kernel_rfl, by kernel_rfl⟩

theorem env9 {W : World} (hL : laidMet Tryd.prog (list9.map fun x => (x.1, errD x.2.2)) W) : ∃ E, EnvC W.heap.size W E ∧ W.var? Tryd.prog "loop.example/lib-g01189/impl.errRead" = some (errReadV (E 5)) ∧ W.var? Tryd.prog "loop.example/lib-g01189/impl.errSplit" = some (errReadV (E 4)) := by
  obtain ⟨ads, hl, hnd, hlies, hat⟩ := errs_of_laid list9 hL list9_globals
  match ads, hl with
  | [a0, an, a1, a2, a3, ab, a6, a4, a5], _ =>
    have h4 := (hat 7 _ a4 rfl rfl).2
    refine ⟨_, ⟨env_mk (W := W) a0 a1 a2 a3 a4 a5 a6 ?_ ?_ (hat 0 _ a0 rfl rfl).2 (hat 2 _ a1 rfl rfl).2 (hat 3 _ a2 rfl rfl).2 (hat 4 _ a3 rfl rfl).2 (hat 8 _ a5 rfl rfl).2 (hat 6 _ a6 rfl rfl).2, h4, World.block_lt_of_cell? W _ h4⟩, (hat 8 _ a5 rfl rfl).1, (hat 7 _ a4 rfl rfl).1⟩
    · simp only [List.nodup_cons, List.mem_cons, not_or, List.not_mem_nil, not_false_eq_true, List.nodup_nil, and_true] at hnd ⊢
      grind
    · intro a ha
      exact (hlies a (by simp only [List.mem_cons, List.not_mem_nil, or_false] at ha ⊢; grind)).2
end Go.Proofs.YtkclapimgmnldaaDoor
