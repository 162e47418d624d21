/-
  What the laws' walks share, in seats without FnLines.
-/
import Derived.Test.YtkclapimgmnldaaDoorGive
import Derived.Test.YtkclapimgmnldaaDoorLined
namespace Go.Proofs.YtkclapimgmnldaaDoor
set_option linter.unusedVariables false
set_option linter.unusedSimpArgs false
set_option maxRecDepth 20000
open Go.RowKit

/-- what a law's walk shows -/
def TrueB (w : World) (e : Ending) (w' : World) : Prop := e = .returned (.bool true) ∧ Below w.heap.size w w'

theorem specLinesG (s : ByteArray) (w : World) (hs : s.size ≤ 4194304) : Calls Tryd.prog 25 #[.string s] w (GivesL (lines s.data.toList) w) := by
  have hl := lines_len s.data.toList
  have hll : s.data.toList.length = s.size := by simp
  exact specLines_any s w (by omega) (by omega)

/-- lined, at a room of its own -/
theorem lined_t {s : ByteArray} (w : World) (hs : s.size ≤ 4194304) (b : Bool) (h : linedB s.data.toList true 0 0 = b) :
    Calls Tryd.prog 20 #[.string s, roomV true 0 0] w fun e w' => e = .returned (.bool b) ∧ Below w.heap.size w w' := by
  subst h
  exact lined_any s true 0 0 w hs
/-- lined, at any room -/
theorem lined_r {s : ByteArray} (d : Bool) (c m : Int) (w : World) (hs : s.size ≤ 4194304) (b : Bool) (h : linedB s.data.toList d c m = b) :
    Calls Tryd.prog 20 #[.string s, roomV d c m] w fun e w' => e = .returned (.bool b) ∧ Below w.heap.size w w' := by
  subst h
  exact lined_any s d c m w hs
end Go.Proofs.YtkclapimgmnldaaDoor
