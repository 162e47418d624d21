/-
  The three boxes of FnScript.
-/
import Derived.Test.YtkclapimgmnldaaDoorQRegS
import Derived.Test.YtkclapimgmnldaaDoorQRepD
namespace Go.Proofs.YtkclapimgmnldaaDoor
set_option linter.unusedVariables false
set_option linter.unusedSimpArgs false
set_option maxRecDepth 20000
open Go.RowKit

/-- the three boxes -/
abbrev lawX (w : World) (s : ByteArray) (pa : Option Addr) (pn pc : Nat) (tog br d : Bool) (c m : Int) (xp : Option Addr) (xn xc : Nat) (rep : Bool) : World :=
  (lawW w s pa pn pc tog br d c m).alloc (.cells #[.slice xp xn xc, .bool rep] 67)
section
variable {w w' w1 w2 : World} {s : ByteArray} {pa : Option Addr} {pn pc : Nat} {tog br d : Bool} {c m : Int} {xp : Option Addr} {xn xc : Nat} {rep : Bool}
theorem lawX_below (w : World) (s : ByteArray) (pa : Option Addr) (pn pc : Nat) (tog br d : Bool) (c m : Int) (xp : Option Addr) (xn xc : Nat) (rep : Bool) : Below w.heap.size w (lawX w s pa pn pc tog br d c m xp xn xc rep) := (lawW_below w s pa pn pc tog br d c m).alloc (by simp; omega) _
theorem lawX_heap (hb : Below (w.heap.size + 3) (lawX w s pa pn pc tog br d c m xp xn xc rep) w') :
    w'.heap[w.heap.size]? = some (.cells #[.string s, .slice pa pn pc, .bool tog, .bool br] 24 (0, 0)) ∧ w'.heap[w.heap.size + 1]? = some (.cells #[.bool d, .int .i64 c, .int .i64 m] 26 (0, 0)) ∧ w'.heap[w.heap.size + 1 + 1]? = some (.cells #[.slice xp xn xc, .bool rep] 67 (0, 0)) := by
  refine ⟨?_, ?_, ?_⟩
  · rw [hb.block _ (by omega), Below.heap_alloc _ _ _ (by simp; omega), Below.heap_alloc _ _ _ (by simp)]
    exact heap_new w _
  · rw [hb.block _ (by omega), Below.heap_alloc _ _ _ (by simp)]
    have := heap_new (w.alloc (.cells #[.string s, .slice pa pn pc, .bool tog, .bool br] 24)) (.cells #[.bool d, .int .i64 c, .int .i64 m] 26)
    simpa using this
  · rw [hb.block _ (by omega)]
    have := heap_new (lawW w s pa pn pc tog br d c m) (.cells #[.slice xp xn xc, .bool rep] 67)
    simpa using this
theorem lawX_base (h : Below (w.heap.size + 3) (lawX w s pa pn pc tog br d c m xp xn xc rep) w1) : Below w.heap.size w w1 :=
  (lawX_below w s pa pn pc tog br d c m xp xn xc rep).trans (h.mono (by omega))
theorem lawX_step (h : Below (w.heap.size + 3) (lawX w s pa pn pc tog br d c m xp xn xc rep) w1) (hb : Below w1.heap.size w1 w2) : Below (w.heap.size + 3) (lawX w s pa pn pc tog br d c m xp xn xc rep) w2 :=
  h.trans (hb.mono (by have := h.size; simp at this; omega))
theorem lawX_refl (w : World) (s : ByteArray) (pa : Option Addr) (pn pc : Nat) (tog br d : Bool) (c m : Int) (xp : Option Addr) (xn xc : Nat) (rep : Bool) : Below (w.heap.size + 3) (lawX w s pa pn pc tog br d c m xp xn xc rep) (lawX w s pa pn pc tog br d c m xp xn xc rep) := Below.refl _ _
end

theorem lawX_cells {w w' : World} {s : ByteArray} {pa : Option Addr} {pn pc : Nat} {tog br d : Bool} {c m : Int} {xp : Option Addr} {xn xc : Nat} {rep : Bool} (hb : Below (w.heap.size + 3) (lawX w s pa pn pc tog br d c m xp xn xc rep) w') :
    w'.cell? ⟨w.heap.size, 0, none⟩ = some (.string s) ∧ w'.cell? ⟨w.heap.size, 1, none⟩ = some (.slice pa pn pc) ∧ w'.cell? ⟨w.heap.size, 2, none⟩ = some (.bool tog) ∧ w'.cell? ⟨w.heap.size, 3, none⟩ = some (.bool br) ∧
      w'.cell? ⟨w.heap.size + 1, 0, none⟩ = some (.bool d) ∧ w'.cell? ⟨w.heap.size + 1, 1, none⟩ = some (.int .i64 c) ∧ w'.cell? ⟨w.heap.size + 1, 2, none⟩ = some (.int .i64 m) ∧
      w'.cell? ⟨w.heap.size + 2, 0, none⟩ = some (.slice xp xn xc) ∧ w'.cell? ⟨w.heap.size + 2, 1, none⟩ = some (.bool rep) := by
  obtain ⟨h0, h1, h2⟩ := lawX_heap hb
  exact ⟨cell_of_heap h0, cell_of_heap h0, cell_of_heap h0, cell_of_heap h0, cell_of_heap h1, cell_of_heap h1, cell_of_heap h1, cell_of_heap h2, cell_of_heap h2⟩
theorem sized_bx {b d : Bool} {c m : Int} (h : sizedB d c m = b) (w : World) : Calls Tryd.prog 12 #[roomV d c m] w fun e w' => e = .returned (.bool b) ∧ Below w.heap.size w w' := by
  subst h
  exact (sized_any d c m w).mono fun e w' ⟨h1, h2⟩ => ⟨h1, by rw [h2]; exact (Below.refl _ _).alloc (Nat.le_refl _) _⟩
theorem limit_bx {n : Nat} {d : Bool} {c m : Int} (h : limitN d c m = n) (w : World) : Calls Tryd.prog 13 #[roomV d c m] w fun e w' => e = .returned (.int .i64 (n : Int)) ∧ Below w.heap.size w w' := by
  subst h
  exact (limit_any d c m w).mono fun e w' ⟨h1, h2⟩ => ⟨h1, by rw [h2]; exact (Below.refl _ _).alloc (Nat.le_refl _) _⟩
end Go.Proofs.YtkclapimgmnldaaDoor
