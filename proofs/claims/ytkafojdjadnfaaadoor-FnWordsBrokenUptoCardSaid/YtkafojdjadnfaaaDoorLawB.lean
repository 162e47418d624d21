/-
  A store into a law's source; begins.
-/
import Derived.Test.YtkafojdjadnfaaaDoorLaw
namespace Go.Proofs.YtkafojdjadnfaaaDoor
set_option linter.unusedVariables false
set_option linter.unusedSimpArgs false
set_option maxRecDepth 20000
open Go.RowKit

theorem law_heap0 {w w' : World} {s : ByteArray} {pa : Option Addr} {pn pc : Nat} {tog br d : Bool} {c m : Int} (hb : Below (w.heap.size + 2) (lawW w s pa pn pc tog br d c m) w') : w'.heap[w.heap.size]? = some (.cells #[.string s, .slice pa pn pc, .bool tog, .bool br] 48 (0, 0)) := by
  rw [hb.block _ (by omega)]
  rw [Below.heap_alloc _ _ _ (by simp)]
  exact heap_new w _
theorem law_frozen {w w' : World} {s : ByteArray} {pa : Option Addr} {pn pc : Nat} {tog br d : Bool} {c m : Int} (hb : Below (w.heap.size + 2) (lawW w s pa pn pc tog br d c m) w') : w'.frozen? ⟨w.heap.size, 3, none⟩ = false := frozen_of_heap (law_heap0 hb) 3
theorem law_store {w w' : World} {s : ByteArray} {pa : Option Addr} {pn pc : Nat} {tog br d : Bool} {c m : Int} (hb : Below (w.heap.size + 2) (lawW w s pa pn pc tog br d c m) w') :
    Below (w.heap.size + 2) (lawW w s pa pn pc tog true d c m) (w'.setCell ⟨w.heap.size, 3, none⟩ (.bool true)) where
  os := hb.os
  tape := hb.tape
  output := hb.output
  size := by
    have := hb.size
    simp at this ⊢
    omega
  block := fun k hk => by
    by_cases h0 : k = w.heap.size
    · subst h0
      rw [heap_setCell_at (law_heap0 hb), Below.heap_alloc _ _ _ (by simp)]
      exact (heap_new w _).symm
    · rw [heap_setCell_not h0, hb.block k hk]
      by_cases h1 : k = w.heap.size + 1
      · subst h1
        have e1 := heap_new (w.alloc (.cells #[.string s, .slice pa pn pc, .bool tog, .bool br] 48)) (.cells #[.bool d, .int .i64 c, .int .i64 m] 24)
        have e2 := heap_new (w.alloc (.cells #[.string s, .slice pa pn pc, .bool tog, .bool true] 48)) (.cells #[.bool d, .int .i64 c, .int .i64 m] 24)
        simp only [World.size_alloc] at e1 e2
        exact e1.trans e2.symm
      · rw [Below.heap_alloc _ _ _ (by simp; omega), Below.heap_alloc _ _ _ (by omega), Below.heap_alloc _ _ _ (by simp; omega), Below.heap_alloc _ _ _ (by omega)]

set_option maxHeartbeats 400000 in
theorem begins_yes (va vb : Value) (xs : List (List UInt8)) (w : World) (ha : Strs w va xs) (hb : Strs w vb xs) :
    Calls Tryd.prog 37 #[va, vb] w (SaysB true w) := by
  have HS := Lib.hid (same_yes va vb xs w ha hb)
  obtain ⟨aa, ca, rfl, ha1, ha2, ha3⟩ := ha
  obtain ⟨ab, cb, rfl, hb1, hb2, hb3⟩ := hb
  clear ha3 hb3
  go_enter Tryd.func37, Tryd.ntmps37
  go_wp2_with fail
  refine HS.out.mono ?_
  rintro e w2 ⟨rfl, n, rfl⟩
  go_wp2_with fail
  go_ret
  exact ⟨rfl, _, rfl⟩
end Go.Proofs.YtkafojdjadnfaaaDoor
