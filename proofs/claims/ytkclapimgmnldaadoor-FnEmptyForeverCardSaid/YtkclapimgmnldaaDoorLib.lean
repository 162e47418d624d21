/-
  Contracts of the small functions of bufio that the scanner is made of.
-/
import Derived.Test.YtkclapimgmnldaaDoorBase
namespace Go.Proofs.YtkclapimgmnldaaDoor
set_option linter.unusedVariables false
set_option linter.unusedSimpArgs false
set_option maxRecDepth 20000
open Go.RowKit

/-- 'Hid' under a name that the walk does not open -/
theorem eql_errs_all {w : World} {E : Nat → Addr} {base : Nat} (h : ErrAt w E base) (c d n : Nat) (hc : c < 7) (hd : d < 7) :
    (binOp .eql 83 (.iface 124 (.pointer (some (E c)))) (.iface 124 (.pointer (some (E d))))).run Tryd.prog (w.drewN n) = .ok (.bool (c == d)) (w.drewN n) :=
  eql_errs (w := w.drewN n) ⟨h.inj, h.lies⟩ c d hc hd
theorem eql_errs_drew {w : World} {E : Nat → Addr} {base : Nat} (h : ErrAt w E base) (c d : Nat) (hc : c < 7) (hd : d < 7) :
    (binOp .eql 83 (.iface 124 (.pointer (some (E c)))) (.iface 124 (.pointer (some (E d))))).run Tryd.prog w.drew = .ok (.bool (c == d)) w.drew :=
  eql_errs (w := w.drew) ⟨h.inj, h.lies⟩ c d hc hd

set_option maxHeartbeats 400000 in
theorem setErr_nil (B : Nat) (p : Addr) (w : World) (hc : w.cell? ⟨B, 7, none⟩ = some .nilIface) (hf : w.frozen? ⟨B, 7, none⟩ = false) :
    Calls Tryd.prog 56 #[.pointer (some ⟨B, 0, none⟩), .iface 124 (.pointer (some p))] w fun e w' => e = .returned (.tuple #[]) ∧ ∃ n, w' = (w.setCell ⟨B, 7, none⟩ (.iface 124 (.pointer (some p)))).drewN n := by
  go_enter Tryd.func56, Tryd.ntmps56
  go_wp2
  go_quiet (fail)
  go_wp2
  go_end0
  exact ⟨rfl, _, rfl⟩

set_option maxHeartbeats 400000 in
theorem setErr_eof (B : Nat) (p : Addr) (w : World) (E : Nat → Addr) (base : Nat) (hE : ErrAt w E base) (hc : w.cell? ⟨B, 7, none⟩ = some (.iface 124 (.pointer (some (E 0))))) (hf : w.frozen? ⟨B, 7, none⟩ = false)
    (hg : w.cell? ⟨6, 0, none⟩ = some (.iface 124 (.pointer (some (E 0))))) :
    Calls Tryd.prog 56 #[.pointer (some ⟨B, 0, none⟩), .iface 124 (.pointer (some p))] w fun e w' => e = .returned (.tuple #[]) ∧ ∃ n, w' = (w.setCell ⟨B, 7, none⟩ (.iface 124 (.pointer (some p)))).drewN n := by
  have h1 := fun n => eql_errs_all hE 0 0 n (by omega) (by omega)
  go_enter Tryd.func56, Tryd.ntmps56
  go_wp2
  go_quiet (fail)
  go_wp2
  go_end0
  exact ⟨rfl, _, rfl⟩

set_option maxHeartbeats 400000 in
theorem setErr_other (B c : Nat) (p : Addr) (w : World) (E : Nat → Addr) (base : Nat) (hE : ErrAt w E base) (hc7 : c < 7) (hc0 : c ≠ 0) (hc : w.cell? ⟨B, 7, none⟩ = some (.iface 124 (.pointer (some (E c)))))
    (hg : w.cell? ⟨6, 0, none⟩ = some (.iface 124 (.pointer (some (E 0))))) :
    Calls Tryd.prog 56 #[.pointer (some ⟨B, 0, none⟩), .iface 124 (.pointer (some p))] w fun e w' => e = .returned (.tuple #[]) ∧ ∃ n, w' = w.drewN n := by
  have h1 := fun n => eql_errs_all hE c 0 n hc7 (by omega)
  have hb : (c == 0) = false := by simpa using hc0
  clear hc0
  go_enter Tryd.func56, Tryd.ntmps56
  go_wp2
  go_quiet (fail)
  go_wp2
  go_end0
  exact ⟨rfl, _, rfl⟩
end Go.Proofs.YtkclapimgmnldaaDoor
