/-
  The reach of the first form: what it says of a text that comes in.
-/
import Derived.Test.YtnoaljlbhihgjaaDoorShut
import Derived.SizedLaws
namespace Go.Proofs.YtnoaljlbhihgjaaDoor
set_option linter.unusedVariables false
set_option linter.unusedSimpArgs false
set_option maxRecDepth 20000
open Go.ChangeShapes Go.WideShapes Go.ChangeAt Go.RowKit

theorem reach_s0 {H : Type} {P : Program} {t : TypeId} {ts : List TypeId} {s : ByteArray} {ds : List (DataW H)} (h : (DataW.weightsEach P (t :: ts) (DataW.lit (.string s.data.toList) :: ds)).all (· ≤ reachBytes) = true) : s.size ≤ 140737488355328 := by
  have h1 := sized_string h (j := 0) (t := t) (bytes := s.data.toList) rfl rfl
  have h2 : s.data.toList.length = s.size := by simp
  unfold reachBytes at h1
  omega
end Go.Proofs.YtnoaljlbhihgjaaDoor
