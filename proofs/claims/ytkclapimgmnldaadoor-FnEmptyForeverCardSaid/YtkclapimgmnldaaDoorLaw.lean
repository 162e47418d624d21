/-
  A law's source and room in their boxes, in seats without FnLinesAfter.
-/
import Derived.Test.YtkclapimgmnldaaDoorSrc
import Derived.Test.YtkclapimgmnldaaDoorTrue
namespace Go.Proofs.YtkclapimgmnldaaDoor
set_option linter.unusedVariables false
set_option linter.unusedSimpArgs false
set_option maxRecDepth 20000
open Go.RowKit

theorem pcs_later {base : Nat} {w w' : World} {pa : Option Addr} {pcs : List Int} {pc : Nat} {pl : List Nat} (h : PcsAt base w pa pcs pc pl) (hb : Below w.heap.size w w') : PcsAt base w' pa pcs pc pl :=
  pcs_frame h (Nat.le_refl _) (fun k hk => hb.block k (h.hlt k hk).2) hb.size

/-- the two boxes of a law's source and room -/
abbrev lawW (w : World) (s : ByteArray) (pa : Option Addr) (pn pc : Nat) (tog br d : Bool) (c m : Int) : World :=
  (w.alloc (.cells #[.string s, .slice pa pn pc, .bool tog, .bool br] 24)).alloc (.cells #[.bool d, .int .i64 c, .int .i64 m] 26)
theorem lawW_below (w : World) (s : ByteArray) (pa : Option Addr) (pn pc : Nat) (tog br d : Bool) (c m : Int) : Below w.heap.size w (lawW w s pa pn pc tog br d c m) := ((Below.refl _ _).alloc (Nat.le_refl _) _).alloc (by simp) _
/-- what they read as, in a later world -/
theorem law_cells {w w' : World} {s : ByteArray} {pa : Option Addr} {pn pc : Nat} {tog br d : Bool} {c m : Int} (hb : Below (w.heap.size + 2) (lawW w s pa pn pc tog br d c m) w') :
    w'.cell? ⟨w.heap.size, 0, none⟩ = some (.string s) ∧ w'.cell? ⟨w.heap.size, 1, none⟩ = some (.slice pa pn pc) ∧ w'.cell? ⟨w.heap.size, 2, none⟩ = some (.bool tog) ∧ w'.cell? ⟨w.heap.size, 3, none⟩ = some (.bool br) ∧
      w'.cell? ⟨w.heap.size + 1, 0, none⟩ = some (.bool d) ∧ w'.cell? ⟨w.heap.size + 1, 1, none⟩ = some (.int .i64 c) ∧ w'.cell? ⟨w.heap.size + 1, 2, none⟩ = some (.int .i64 m) := by
  have h0 : w'.heap[w.heap.size]? = some (.cells #[.string s, .slice pa pn pc, .bool tog, .bool br] 24 (0, 0)) := by
    rw [hb.block _ (by omega)]
    rw [Below.heap_alloc _ _ _ (by simp)]
    exact heap_new w _
  have h1 : w'.heap[w.heap.size + 1]? = some (.cells #[.bool d, .int .i64 c, .int .i64 m] 26 (0, 0)) := by
    rw [hb.block _ (by omega)]
    have := heap_new (w.alloc (.cells #[.string s, .slice pa pn pc, .bool tog, .bool br] 24)) (.cells #[.bool d, .int .i64 c, .int .i64 m] 26)
    simpa using this
  exact ⟨cell_of_heap h0, cell_of_heap h0, cell_of_heap h0, cell_of_heap h0, cell_of_heap h1, cell_of_heap h1, cell_of_heap h1⟩

/-- a source as a law has it -/
abbrev srcL (s : ByteArray) (pa : Option Addr) (pn pc : Nat) (tog br : Bool) : Value := .agg #[.string s, .slice pa pn pc, .bool tog, .bool br]

section
variable {w : World} {E : Nat → Addr} {s : ByteArray} {pa : Option Addr} {pcs : List Int} {pc : Nat} {tog d : Bool} {c m : Int}

/-- later worlds of the walk -/
theorem law_step {w w1 w2 : World} {s : ByteArray} {pa : Option Addr} {pn pc : Nat} {tog br d : Bool} {c m : Int} (h : Below (w.heap.size + 2) (lawW w s pa pn pc tog br d c m) w1) (hb : Below w1.heap.size w1 w2) : Below (w.heap.size + 2) (lawW w s pa pn pc tog br d c m) w2 :=
  h.trans (hb.mono (by have := h.size; simp at this; omega))
theorem law_base {w w1 : World} {s : ByteArray} {pa : Option Addr} {pn pc : Nat} {tog br d : Bool} {c m : Int} (h : Below (w.heap.size + 2) (lawW w s pa pn pc tog br d c m) w1) : Below w.heap.size w w1 :=
  (lawW_below w s pa pn pc tog br d c m).trans (h.mono (by omega))
end
end Go.Proofs.YtkclapimgmnldaaDoor
