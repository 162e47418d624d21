/-
  FnScript, whole.
-/
import Derived.Test.YtkclapimgmnldaaDoorQWalkScr
import Derived.Test.YtkclapimgmnldaaDoorQScrE
import Derived.Test.YtkclapimgmnldaaDoorQRepL
namespace Go.Proofs.YtkclapimgmnldaaDoor
set_option linter.unusedVariables false
set_option linter.unusedSimpArgs false
set_option maxRecDepth 20000
open Go.RowKit

section
variable {w : World} {E : Nat → Addr} {s : ByteArray} {pa : Option Addr} {pcs : List Int} {pc : Nat} {tog d rep : Bool} {c m : Int} {xp : Option Addr} {xc : Nat} {rs : List Rep}
theorem fnScript_walk (br : Bool) (n : Int) (hE : EnvC w.heap.size w E) (hi : Ints w pa pcs pc) (hs : s.size ≤ 140737488355328) (hpn : pcs.length * 8 ≤ 140737488355328) (hx : RepsC w xp rs xc) (hfit : RepsFit rs) :
    Calls Tryd.prog 10 #[srcL s pa pcs.length pc tog br, roomV d c m, .agg #[.slice xp rs.length xc, .bool rep], .int .i64 n] w (TrueB w) := by
  by_cases hn : n < 0 ∨ 300 < n
  · exact fnScript_e br hn
  · have hn' : 0 ≤ n ∧ n ≤ 300 := by omega
    cases hsz : sizedB d c m with
    | false => exact fnScript_e3 br hn' hsz
    | true =>
      by_cases h4 : limitN d c m ≤ s.size + 1
      · exact fnScript_e4 br hn' hs hsz _ rfl h4
      · by_cases h5 : limitN d c m < 3
        · exact fnScript_e5 br hn' hs hsz _ rfl (by omega) h5
        · have hlim := limit_small hsz
          exact fnScript_t br hE hi hpn hx hfit hn' hsz _ rfl (by omega) (by omega) (fun w' ca cc cl tk e fin h1 h2 h3 h6 => replay_any false h1 h2 (by omega) h3 h6)
end
end Go.Proofs.YtkclapimgmnldaaDoor
