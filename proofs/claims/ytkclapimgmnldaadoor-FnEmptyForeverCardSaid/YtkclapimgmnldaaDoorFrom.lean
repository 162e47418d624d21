/-
  impl.LinesFrom: the tokens and the error's number, whatever the source and the room.
-/
import Derived.Test.YtkclapimgmnldaaDoorCode
import Derived.Test.YtkclapimgmnldaaDoorGive
import Derived.Test.YtkclapimgmnldaaDoorLong
namespace Go.Proofs.YtkclapimgmnldaaDoor
set_option linter.unusedVariables false
set_option linter.unusedSimpArgs false
set_option maxRecDepth 20000
open Go.RowKit

/-- the two boxes of the arguments -/
abbrev boxV (w : World) (s : ByteArray) (pa : Option Addr) (pn pc : Nat) (tog broken d : Bool) (c m : Int) : World :=
  (w.alloc (.cells #[.string s, .slice pa pn pc, .bool tog, .bool broken] 38)).alloc (.cells #[.bool d, .int .i64 c, .int .i64 m] 40)
theorem boxV_below (w : World) (s : ByteArray) (pa : Option Addr) (pn pc : Nat) (tog broken d : Bool) (c m : Int) : Below w.heap.size w (boxV w s pa pn pc tog broken d c m) := ((Below.refl _ _).alloc (Nat.le_refl _) _).alloc (by simp) _
theorem pcs_on {base : Nat} {w w' : World} {pa : Option Addr} {pcs : List Int} {pc : Nat} {pl : List Nat} (h : PcsAt base w pa pcs pc pl) (hb : Below w.heap.size w w') : PcsAt base w' pa pcs pc pl :=
  ⟨fun i x hx => by
    obtain ⟨b, o, e, hm, hc⟩ := h.hp i x hx
    exact ⟨b, o, e, hm, (hb.cell (p := ⟨b, o + i, Option.none⟩) (h.hlt b hm).2).trans hc⟩, h.hpc, h.hnd, fun k hk => ⟨(h.hlt k hk).1, Nat.lt_of_lt_of_le (h.hlt k hk).2 hb.size⟩⟩
theorem off_box {pl : List Nat} {w w1 w2 : World} (hb : Below w.heap.size w w1) (h : Off pl w1 w2) : Off pl w w2 :=
  ⟨h.os.trans hb.os, h.tape.trans hb.tape, h.output.trans hb.output, Nat.le_trans hb.size h.size, fun k hk hn => (h.block k (Nat.lt_of_lt_of_le hk hb.size) hn).trans (hb.block k hk)⟩

/-- what LinesFrom gives -/
def FromPost (xs : List (List UInt8)) (cd : Int) (pl : List Nat) (w : World) (e : Ending) (w' : World) : Prop := ∃ v, e = .returned (.tuple #[v, .int .i64 cd]) ∧ StrsAt w.heap.size w' v xs ∧ Off pl w w'

section
variable {base : Nat} {w : World} {E : Nat → Addr} {s : ByteArray} {pa : Option Addr} {pcs : List Int} {pc : Nat} {pl : List Nat} {tog : Bool} {c m : Int}



end
end Go.Proofs.YtkclapimgmnldaaDoor
