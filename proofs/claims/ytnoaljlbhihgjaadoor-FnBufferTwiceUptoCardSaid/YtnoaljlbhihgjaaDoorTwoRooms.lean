/-
  Two rooms of a law in their boxes.
-/
import Derived.Test.YtnoaljlbhihgjaaDoorLaw
namespace Go.Proofs.YtnoaljlbhihgjaaDoor
set_option linter.unusedVariables false
set_option linter.unusedSimpArgs false
set_option maxRecDepth 20000
open Go.RowKit

/-- the two boxes -/
abbrev twoW (w : World) (d : Bool) (c m : Int) (d2 : Bool) (c2 m2 : Int) : World := (w.alloc (roomO d c m)).alloc (roomO d2 c2 m2)
theorem twoW_below (w : World) (d : Bool) (c m : Int) (d2 : Bool) (c2 m2 : Int) : Below w.heap.size w (twoW w d c m d2 c2 m2) := ((Below.refl _ _).alloc (Nat.le_refl _) _).alloc (by simp) _
section
variable {w w1 w2 : World} {d d2 : Bool} {c m c2 m2 : Int}
theorem two_cells (hb : Below (w.heap.size + 2) (twoW w d c m d2 c2 m2) w1) :
    w1.cell? ⟨w.heap.size, 0, none⟩ = some (.bool d) ∧ w1.cell? ⟨w.heap.size, 1, none⟩ = some (.int .i64 c) ∧ w1.cell? ⟨w.heap.size, 2, none⟩ = some (.int .i64 m) ∧
      w1.cell? ⟨w.heap.size + 1, 0, none⟩ = some (.bool d2) ∧ w1.cell? ⟨w.heap.size + 1, 1, none⟩ = some (.int .i64 c2) ∧ w1.cell? ⟨w.heap.size + 1, 2, none⟩ = some (.int .i64 m2) := by
  have h0 : w1.heap[w.heap.size]? = some (roomO d c m) := by
    rw [hb.block _ (by omega)]
    rw [Below.heap_alloc _ _ _ (by simp)]
    exact heap_new w _
  have h1 : w1.heap[w.heap.size + 1]? = some (roomO d2 c2 m2) := by
    rw [hb.block _ (by omega)]
    have := heap_new (w.alloc (roomO d c m)) (roomO d2 c2 m2)
    simpa using this
  exact ⟨cell_of_heap h0, cell_of_heap h0, cell_of_heap h0, cell_of_heap h1, cell_of_heap h1, cell_of_heap h1⟩
theorem two_step (h : Below (w.heap.size + 2) (twoW w d c m d2 c2 m2) w1) (hb : Below w1.heap.size w1 w2) : Below (w.heap.size + 2) (twoW w d c m d2 c2 m2) w2 :=
  h.trans (hb.mono (by have := h.size; simp at this; omega))
theorem two_base (h : Below (w.heap.size + 2) (twoW w d c m d2 c2 m2) w1) : Below w.heap.size w w1 :=
  (twoW_below w d c m d2 c2 m2).trans (h.mono (by omega))
theorem two_grown (h : Below (w.heap.size + 2) (twoW w d c m d2 c2 m2) w1) (hg : w1.grownBy w2 none) : Below (w.heap.size + 2) (twoW w d c m d2 c2 m2) w2 :=
  two_step h ((Below.refl _ _).grown hg (Nat.le_refl _) (fun k h => by cases h))
theorem two_drew {B : Nat} {a w : World} (h : Below B a w) (n : Nat) : Below B a (w.drewN n) := ⟨h.os, h.tape, h.output, h.size, h.block⟩
theorem grown_below0 (hg : w1.grownBy w2 none) : Below w1.heap.size w1 w2 := (Below.refl _ _).grown hg (Nat.le_refl _) (fun k h => by cases h)
theorem two_pcs {w0 : World} {pa : Option Addr} {pcs : List Int} {pc : Nat} (h : Below (w.heap.size + 2) (twoW w d c m d2 c2 m2) w0) (hr : w1.ownsRow w0.heap.size 3 1 (.slice pa pcs.length pc) pcs.length (pcs.map (.int .i64))) (hb : Below w1.heap.size w1 w2) :
    ∃ pl, Hid (PcsAt w.heap.size w2 pa pcs pc pl) ∧ ∀ k, k ∈ pl → w0.heap.size ≤ k := by
  obtain ⟨pa', pc', pl, e1, hpc⟩ := pcs_of_row hr
  simp only [Value.slice.injEq, true_and] at e1
  obtain ⟨rfl, rfl⟩ := e1
  exact ⟨pl, Lib.hid (pcs_later (pcs_frame hpc (two_base h).size (fun _ _ => rfl) (Nat.le_refl _)) hb), fun k hk => (hpc.hlt k hk).1⟩
end
end Go.Proofs.YtnoaljlbhihgjaaDoor
