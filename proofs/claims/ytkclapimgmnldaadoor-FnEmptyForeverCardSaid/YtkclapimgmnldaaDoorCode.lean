/-
  Err and code: the number of the error that a scanner stands at.
-/
import Derived.Test.YtkclapimgmnldaaDoorRun
import Derived.Test.YtkclapimgmnldaaDoorTexts
import Derived.Stop.IfaceNil
namespace Go.Proofs.YtkclapimgmnldaaDoor
set_option linter.unusedVariables false
set_option linter.unusedSimpArgs false
set_option maxRecDepth 20000
open Go.RowKit

/-- What a law leans on that asks for the number of an error. -/
structure EnvC (base : Nat) (w : World) (E : Nat → Addr) : Prop where
  e : Env base w E
  sp : w.cell? ⟨0, 0, none⟩ = some (.iface 124 (.pointer (some (E 4))))
  lts : 0 < base
theorem EnvC.below {base : Nat} {w w' : World} {E : Nat → Addr} (h : EnvC base w E) (hb : Below base w w') : EnvC base w' E :=
  ⟨h.e.below hb, (hb.cell (p := ⟨_, 0, none⟩) h.lts).trans h.sp, h.lts⟩
theorem EnvC.later {base : Nat} {w w' : World} {E : Nat → Addr} (h : EnvC base w E) (hb : Below w.heap.size w w') : EnvC base w' E := h.below (hb.mono h.e.le)

theorem EnvC.drewN {base : Nat} {w : World} {E : Nat → Addr} (h : EnvC base w E) (n : Nat) : EnvC base (w.drewN n) E := h.below (below_drewN (Below.refl _ _) n)

/-- the number of an error -/
def codeI : Option Nat → Int
  | none => 0
  | some c => c
theorem errIface : Tryd.prog.isIface 83 = true := by kernel_rfl

set_option maxHeartbeats 400000 in
theorem code_none (w : World) : Calls Tryd.prog 39 #[.nilIface] w fun e w' => e = .returned (.int .i64 0) ∧ w = w' := by
  go_enter Tryd.func39, Tryd.ntmps39
  go_wp2
  go_ret
  exact ⟨rfl, rfl⟩

set_option maxHeartbeats 400000 in
theorem code_1 {base : Nat} {w : World} {E : Nat → Addr} (h : EnvC base w E) : Calls Tryd.prog 39 #[.iface 124 (.pointer (some (E 1)))] w fun e w' => e = .returned (.int .i64 1) ∧ w = w' := by
  have hE := h.e.g.errs
  have g1 := h.e.g.tooLong
  have g2 := h.e.g.neg
  have g3 := h.e.g.far
  have g4 := h.sp
  have g5 := h.e.rd
  have h0 := run_eql_iface_nil (P := Tryd.prog) w 83 errIface 124 (.pointer (some (E 1)))
  have e1 : (binOp .eql 83 (.iface 124 (.pointer (some (E 1)))) (.iface 124 (.pointer (some (E 1))))).run Tryd.prog w = .ok (.bool true) w := eql_errs hE 1 1 (by omega) (by omega)
  clear h hE
  go_enter Tryd.func39, Tryd.ntmps39
  go_wp2
  go_ret
  exact ⟨rfl, rfl⟩

set_option maxHeartbeats 400000 in
theorem code_2 {base : Nat} {w : World} {E : Nat → Addr} (h : EnvC base w E) : Calls Tryd.prog 39 #[.iface 124 (.pointer (some (E 2)))] w fun e w' => e = .returned (.int .i64 2) ∧ w = w' := by
  have hE := h.e.g.errs
  have g1 := h.e.g.tooLong
  have g2 := h.e.g.neg
  have g3 := h.e.g.far
  have g4 := h.sp
  have g5 := h.e.rd
  have h0 := run_eql_iface_nil (P := Tryd.prog) w 83 errIface 124 (.pointer (some (E 2)))
  have e1 : (binOp .eql 83 (.iface 124 (.pointer (some (E 2)))) (.iface 124 (.pointer (some (E 1))))).run Tryd.prog w = .ok (.bool false) w := eql_errs hE 2 1 (by omega) (by omega)
  have e2 : (binOp .eql 83 (.iface 124 (.pointer (some (E 2)))) (.iface 124 (.pointer (some (E 2))))).run Tryd.prog w = .ok (.bool true) w := eql_errs hE 2 2 (by omega) (by omega)
  clear h hE
  go_enter Tryd.func39, Tryd.ntmps39
  go_wp2
  go_ret
  exact ⟨rfl, rfl⟩

set_option maxHeartbeats 400000 in
theorem code_3 {base : Nat} {w : World} {E : Nat → Addr} (h : EnvC base w E) : Calls Tryd.prog 39 #[.iface 124 (.pointer (some (E 3)))] w fun e w' => e = .returned (.int .i64 3) ∧ w = w' := by
  have hE := h.e.g.errs
  have g1 := h.e.g.tooLong
  have g2 := h.e.g.neg
  have g3 := h.e.g.far
  have g4 := h.sp
  have g5 := h.e.rd
  have h0 := run_eql_iface_nil (P := Tryd.prog) w 83 errIface 124 (.pointer (some (E 3)))
  have e1 : (binOp .eql 83 (.iface 124 (.pointer (some (E 3)))) (.iface 124 (.pointer (some (E 1))))).run Tryd.prog w = .ok (.bool false) w := eql_errs hE 3 1 (by omega) (by omega)
  have e2 : (binOp .eql 83 (.iface 124 (.pointer (some (E 3)))) (.iface 124 (.pointer (some (E 2))))).run Tryd.prog w = .ok (.bool false) w := eql_errs hE 3 2 (by omega) (by omega)
  have e3 : (binOp .eql 83 (.iface 124 (.pointer (some (E 3)))) (.iface 124 (.pointer (some (E 3))))).run Tryd.prog w = .ok (.bool true) w := eql_errs hE 3 3 (by omega) (by omega)
  clear h hE
  go_enter Tryd.func39, Tryd.ntmps39
  go_wp2
  go_ret
  exact ⟨rfl, rfl⟩

set_option maxHeartbeats 400000 in
theorem code_4 {base : Nat} {w : World} {E : Nat → Addr} (h : EnvC base w E) : Calls Tryd.prog 39 #[.iface 124 (.pointer (some (E 4)))] w fun e w' => e = .returned (.int .i64 4) ∧ w = w' := by
  have hE := h.e.g.errs
  have g1 := h.e.g.tooLong
  have g2 := h.e.g.neg
  have g3 := h.e.g.far
  have g4 := h.sp
  have g5 := h.e.rd
  have h0 := run_eql_iface_nil (P := Tryd.prog) w 83 errIface 124 (.pointer (some (E 4)))
  have e1 : (binOp .eql 83 (.iface 124 (.pointer (some (E 4)))) (.iface 124 (.pointer (some (E 1))))).run Tryd.prog w = .ok (.bool false) w := eql_errs hE 4 1 (by omega) (by omega)
  have e2 : (binOp .eql 83 (.iface 124 (.pointer (some (E 4)))) (.iface 124 (.pointer (some (E 2))))).run Tryd.prog w = .ok (.bool false) w := eql_errs hE 4 2 (by omega) (by omega)
  have e3 : (binOp .eql 83 (.iface 124 (.pointer (some (E 4)))) (.iface 124 (.pointer (some (E 3))))).run Tryd.prog w = .ok (.bool false) w := eql_errs hE 4 3 (by omega) (by omega)
  have e4 : (binOp .eql 83 (.iface 124 (.pointer (some (E 4)))) (.iface 124 (.pointer (some (E 4))))).run Tryd.prog w = .ok (.bool true) w := eql_errs hE 4 4 (by omega) (by omega)
  clear h hE
  go_enter Tryd.func39, Tryd.ntmps39
  go_wp2
  go_ret
  exact ⟨rfl, rfl⟩

set_option maxHeartbeats 400000 in
theorem code_5 {base : Nat} {w : World} {E : Nat → Addr} (h : EnvC base w E) : Calls Tryd.prog 39 #[.iface 124 (.pointer (some (E 5)))] w fun e w' => e = .returned (.int .i64 5) ∧ w = w' := by
  have hE := h.e.g.errs
  have g1 := h.e.g.tooLong
  have g2 := h.e.g.neg
  have g3 := h.e.g.far
  have g4 := h.sp
  have g5 := h.e.rd
  have h0 := run_eql_iface_nil (P := Tryd.prog) w 83 errIface 124 (.pointer (some (E 5)))
  have e1 : (binOp .eql 83 (.iface 124 (.pointer (some (E 5)))) (.iface 124 (.pointer (some (E 1))))).run Tryd.prog w = .ok (.bool false) w := eql_errs hE 5 1 (by omega) (by omega)
  have e2 : (binOp .eql 83 (.iface 124 (.pointer (some (E 5)))) (.iface 124 (.pointer (some (E 2))))).run Tryd.prog w = .ok (.bool false) w := eql_errs hE 5 2 (by omega) (by omega)
  have e3 : (binOp .eql 83 (.iface 124 (.pointer (some (E 5)))) (.iface 124 (.pointer (some (E 3))))).run Tryd.prog w = .ok (.bool false) w := eql_errs hE 5 3 (by omega) (by omega)
  have e4 : (binOp .eql 83 (.iface 124 (.pointer (some (E 5)))) (.iface 124 (.pointer (some (E 4))))).run Tryd.prog w = .ok (.bool false) w := eql_errs hE 5 4 (by omega) (by omega)
  have e5 : (binOp .eql 83 (.iface 124 (.pointer (some (E 5)))) (.iface 124 (.pointer (some (E 5))))).run Tryd.prog w = .ok (.bool true) w := eql_errs hE 5 5 (by omega) (by omega)
  clear h hE
  go_enter Tryd.func39, Tryd.ntmps39
  go_wp2
  go_ret
  exact ⟨rfl, rfl⟩

/-- code, in one -/
theorem code_any {base : Nat} {w : World} {E : Nat → Addr} (h : EnvC base w E) (c : Option Nat) (hc : ∀ k, c = some k → 1 ≤ k ∧ k ≤ 5) : Calls Tryd.prog 39 #[errV E c] w fun e w' => e = .returned (.int .i64 (codeI c)) ∧ w = w' := by
  cases c with
  | none => exact code_none w
  | some k =>
    obtain ⟨h1, h2⟩ := hc k rfl
    match k, h1, h2 with
    | 1, _, _ => exact code_1 h
    | 2, _, _ => exact code_2 h
    | 3, _, _ => exact code_3 h
    | 4, _, _ => exact code_4 h
    | 5, _, _ => exact code_5 h

/-- what Err makes of an error -/
def errOf : Option Nat → Option Nat
  | some 0 => none
  | c => c

set_option maxHeartbeats 400000 in
theorem err_some (B c : Nat) (w : World) (E : Nat → Addr) (base : Nat) (hE : ErrAt w E base) (hc7 : c < 7) (hc : w.cell? ⟨B, 7, none⟩ = some (.iface 124 (.pointer (some (E c))))) (hg : w.cell? ⟨6, 0, none⟩ = some (.iface 124 (.pointer (some (E 0))))) :
    Calls Tryd.prog 40 #[.pointer (some ⟨B, 0, none⟩)] w fun e w' => e = .returned (errV E (errOf (some c))) ∧ ∃ n, w' = w.drewN n := by
  have h1 := fun n => eql_errs_all hE c 0 n hc7 (by omega)
  cases c with
  | zero =>
    have hb : ((0 : Nat) == 0) = true := rfl
    simp only [hb] at h1
    go_enter Tryd.func40, Tryd.ntmps40
    go_wp2
    go_quiet (fail)
    go_wp2
    go_ret
    exact ⟨rfl, _, rfl⟩
  | succ c =>
    have hb : ((c + 1 : Nat) == 0) = false := rfl
    simp only [hb] at h1
    go_enter Tryd.func40, Tryd.ntmps40
    go_wp2
    go_quiet (fail)
    go_wp2
    go_ret
    exact ⟨rfl, _, rfl⟩

/-- Err of a scanner -/
theorem err_any {σ : Type} {cf : Cfg} {SI : σ → List Nat → World → Prop} {x : Sm σ} {tokv : Value} {called : Bool} {ba : Option Addr} {L : Nat} {own : List Nat} {w : World} (h : SOk cf SI x tokv called ba L own w) :
    Calls Tryd.prog 40 #[.pointer (some ⟨cf.B, 0, none⟩)] w fun e w' => e = .returned (errV cf.E (errOf x.err)) ∧ ∃ n, w' = w.drewN n := by
  obtain ⟨s, e, bytes, pa, pcs, pc, pl, bl, osp, h, rfl⟩ := h
  have h7 := h.c7
  have hg := h.r.hg
  cases hx : x.err with
  | none =>
    rw [hx] at h7
    exact err_nil cf.B w _ h7 hg.eof
  | some c =>
    rw [hx] at h7
    exact err_some cf.B c w cf.E cf.base hg.errs (h.r.herr c hx) h7 hg.eof
end Go.Proofs.YtkclapimgmnldaaDoor
