/-
  Making a scanner: open, NewScanner, the thin package's scanner with a room of its own; Err, Text, Bytes, Buffer.
-/
import Derived.Test.YtkclapimgmnldaaDoorQA
import Derived.Lib.MinMax
import Derived.Deep.RegionWith
namespace Go.Proofs.YtkclapimgmnldaaDoor
set_option linter.unusedVariables false
set_option linter.unusedSimpArgs false
set_option maxRecDepth 20000
open Go.RowKit

/-- a source as a value -/
abbrev srcV (s : ByteArray) (pa : Option Addr) (pn pc : Nat) (tog broken : Bool) : Value := .agg #[.string s, .slice pa pn pc, .bool tog, .bool broken]
/-- a room as a value -/
abbrev roomV (d : Bool) (c m : Int) : Value := .agg #[.bool d, .int .i64 c, .int .i64 m]

section
variable (s : ByteArray) (pa : Option Addr) (pn pc : Nat) (tog : Bool) (w : World) (E0 E5 : Addr)

/-- the reader's cells -/
abbrev rdCells (ev : Value) : Array Value := #[.string s, .slice pa pn pc, .bool tog, ev]

set_option maxHeartbeats 400000 in
theorem open_ok (hg : w.cell? ⟨6, 0, none⟩ = some (.iface 124 (.pointer (some E0)))) (hlt : 6 < w.heap.size) :
    Calls Tryd.prog 51 #[srcV s pa pn pc tog false] w fun e w' => e = .returned (.pointer (some ⟨w.heap.size + 1, 0, none⟩)) ∧
      w' = (w.alloc (.cells #[.string s, .slice pa pn pc, .bool tog, .bool false] 38)).alloc (.cells (rdCells s pa pn pc tog (.iface 124 (.pointer (some E0)))) 116) := by
  go_enter Tryd.func51, Tryd.ntmps51
  go_wp2
  go_ret
  exact ⟨rfl, rfl⟩

set_option maxHeartbeats 400000 in
theorem open_broken (hg : w.cell? ⟨6, 0, none⟩ = some (.iface 124 (.pointer (some E0)))) (hlt : 6 < w.heap.size)
    (hg5 : w.cell? ⟨5, 0, none⟩ = some (.iface 124 (.pointer (some E5)))) (hlt5 : 5 < w.heap.size) :
    Calls Tryd.prog 51 #[srcV s pa pn pc tog true] w fun e w' => e = .returned (.pointer (some ⟨w.heap.size + 1, 0, none⟩)) ∧
      w' = (w.alloc (.cells #[.string s, .slice pa pn pc, .bool tog, .bool true] 38)).alloc (.cells (rdCells s pa pn pc tog (.iface 124 (.pointer (some E5)))) 116) := by
  go_enter Tryd.func51, Tryd.ntmps51
  go_wp2
  go_ret
  exact ⟨rfl, rfl⟩
end

/-- a new scanner's cells -/
abbrev newCells (R : Nat) : Array Value :=
  #[.iface 98 (.pointer (some ⟨R, 0, none⟩)), .func (.func 59) #[] #[], .int .i64 65536, .slice none 0 0, .slice none 0 0, .int .i64 0, .int .i64 0, .nilIface, .int .i64 0, .bool false, .bool false]

set_option maxHeartbeats 400000 in
theorem newScanner_any (R : Nat) (w : World) : Calls Tryd.prog 50 #[.iface 98 (.pointer (some ⟨R, 0, none⟩))] w fun e w' => e = .returned (.pointer (some ⟨w.heap.size, 0, none⟩)) ∧ w' = w.alloc (.cells (newCells R) 106) := by
  go_enter Tryd.func50, Tryd.ntmps50
  go_wp2
  go_ret
  exact ⟨rfl, rfl⟩

/-- Err of a scanner without an error -/
theorem err_nil (B : Nat) (w : World) (p : Addr) (hc : w.cell? ⟨B, 7, none⟩ = some .nilIface) (hg : w.cell? ⟨6, 0, none⟩ = some (.iface 124 (.pointer (some p)))) :
    Calls Tryd.prog 40 #[.pointer (some ⟨B, 0, none⟩)] w fun e w' => e = .returned .nilIface ∧ ∃ n, w' = w.drewN n := by
  have h1 := fun n => run_eql_iface_nil_left (P := Tryd.prog) (w.drewN n) 124 (.pointer (some p)) Tryd.underlying83
  go_enter Tryd.func40, Tryd.ntmps40
  go_wp2
  go_quiet (fail)
  go_wp2
  go_ret
  exact ⟨rfl, _, rfl⟩

/-- the five blocks that a scanner is made of; the reader's error is ev -/
abbrev madeW (w : World) (s : ByteArray) (pa : Option Addr) (pn pc : Nat) (tog broken : Bool) (rm : Array Value) (ev : Value) : World :=
  ((((w.alloc (.cells #[.string s, .slice pa pn pc, .bool tog, .bool broken] 38)).alloc (.cells rm 40)).alloc (.cells #[.string s, .slice pa pn pc, .bool tog, .bool broken] 38)).alloc
    (.cells (rdCells s pa pn pc tog ev) 116)).alloc (.cells (newCells (w.heap.size + 3)) 106)

section
variable (s : ByteArray) (pa : Option Addr) (pn pc : Nat) (tog : Bool) (w : World) (E0 E5 : Addr) (c m : Int)

set_option maxHeartbeats 400000 in
theorem scanner_default (hg : w.cell? ⟨6, 0, none⟩ = some (.iface 124 (.pointer (some E0)))) (hlt : 6 < w.heap.size) :
    Calls Tryd.prog 35 #[srcV s pa pn pc tog false, roomV true c m] w fun e w' => e = .returned (.pointer (some ⟨w.heap.size + 4, 0, none⟩)) ∧
      w' = madeW w s pa pn pc tog false #[.bool true, .int .i64 c, .int .i64 m] (.iface 124 (.pointer (some E0))) := by
  have HO := Lib.hid (open_ok s pa pn pc tog ((w.alloc (.cells #[.string s, .slice pa pn pc, .bool tog, .bool false] 38)).alloc (.cells #[.bool true, .int .i64 c, .int .i64 m] 40)) E0
    (by rw [World.cell?_alloc_lt _ _ _ (by simp; omega), World.cell?_alloc_lt _ _ _ (by simpa using hlt)]; exact hg) (by simp; omega))
  clear hg
  go_enter Tryd.func35, Tryd.ntmps35
  go_wp2_with fail
  refine HO.out.mono ?_
  rintro e w' ⟨rfl, rfl⟩
  go_wp2_with fail
  refine (newScanner_any _ _).mono ?_
  rintro e w' ⟨rfl, rfl⟩
  go_wp2_with fail
  go_ret
  exact ⟨rfl, rfl⟩
end
end Go.Proofs.YtkclapimgmnldaaDoor
