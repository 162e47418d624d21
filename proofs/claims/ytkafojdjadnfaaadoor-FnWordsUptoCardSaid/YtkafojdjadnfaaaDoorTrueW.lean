/-
  What the laws' walks on words share.
-/
import Derived.Test.YtkafojdjadnfaaaDoorTrue
import Derived.Test.YtkafojdjadnfaaaDoorWorded
import Derived.Test.YtkafojdjadnfaaaDoorFromW
namespace Go.Proofs.YtkafojdjadnfaaaDoor
set_option linter.unusedVariables false
set_option linter.unusedSimpArgs false
set_option maxRecDepth 20000
open Go.RowKit

/-- what the walks lean on: the errors and the two tables -/
structure EnvT (base : Nat) (w : World) (E : Nat → Addr) : Prop where
  e : Env base w E
  t : TabsB base w
theorem EnvT.later {base : Nat} {w w' : World} {E : Nat → Addr} (h : EnvT base w E) (hb : Below w.heap.size w w') : EnvT base w' E := ⟨h.e.later hb, h.t.later h.e.le hb⟩
structure EnvW (base : Nat) (w : World) (E : Nat → Addr) : Prop where
  c : EnvC base w E
  t : TabsB base w
theorem EnvW.later {base : Nat} {w w' : World} {E : Nat → Addr} (h : EnvW base w E) (hb : Below w.heap.size w w') : EnvW base w' E := ⟨h.c.later hb, h.t.later h.c.e.le hb⟩

theorem specWordsG (s : ByteArray) (w : World) (hs : s.size ≤ 4194304) : Calls Tryd.prog 31 #[.string s] w (GivesL (words s.data.toList) w) := by
  have hl := words_len _ s.data.toList (Nat.le_refl _)
  have hll : s.data.toList.length = s.size := by simp
  exact specWords_any s w (by omega) (by omega)
/-- worded, at a room of its own -/
theorem worded_t {s : ByteArray} (w : World) (hs : s.size ≤ 4194304) (b : Bool) (h : wordedB s.data.toList true 0 0 = b) :
    Calls Tryd.prog 29 #[.string s, roomV true 0 0] w fun e w' => e = .returned (.bool b) ∧ Below w.heap.size w w' := by
  subst h
  exact worded_any s true 0 0 w hs
theorem wordedF_of {t : List UInt8} {d : Bool} {c m : Int} (h : wordedB t d c m = true) : WordedF t d c m := ⟨(wordedB_of h).1, (wordedB_of h).2⟩
end Go.Proofs.YtkafojdjadnfaaaDoor
