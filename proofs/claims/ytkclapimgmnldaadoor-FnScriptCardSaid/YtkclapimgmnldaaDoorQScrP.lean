/-
  What a run by a script comes to, as FnScript asks it. No program in sight but for codes.
-/
import Derived.Test.YtkclapimgmnldaaDoorQRegS
import Derived.Test.YtkclapimgmnldaaDoorQQ
namespace Go.Proofs.YtkclapimgmnldaaDoor
set_option linter.unusedVariables false
set_option linter.unusedSimpArgs false
set_option maxRecDepth 20000

theorem code_errN (e : Option Nat) : codeI (errOf e) = ((errN e : Nat) : Int) := by
  cases e with
  | none => rfl
  | some k =>
    cases k with
    | zero => rfl
    | succ k => rfl
theorem scans_nil {σ : Type} {split : σ → List UInt8 → Bool → Ans σ} {lim : Nat} {tog : Bool} {endE : Nat} {x0 x1 : Sm σ} {ts : List (List UInt8)} (h : Scans split lim tog endE x0 ts x1) (h0 : ts.length = 0) : x1 = x0 := by
  cases h with
  | nil => rfl
  | snoc ts x1 x2 t _ _ => simp at h0
/-- no call of Scan at all -/
theorem runs_zero {rs : List Rep} {rep : Bool} {lim : Nat} {tog : Bool} {x0 x' : Sm TS} {ts : List (List UInt8)} {ended pan : Bool} (h : RunsTo (splitTape rs rep) lim tog 0 x0 0 ts x' ended pan) : ts = [] ∧ x' = x0 ∧ ended = false ∧ pan = false := by
  obtain ⟨x1, h1, ⟨h2, rfl, rfl, rfl⟩ | ⟨h2, _⟩ | ⟨h2, _⟩⟩ := h
  · exact ⟨List.length_eq_zero_iff.1 h2, scans_nil h1 h2, rfl, rfl⟩
  · omega
  · omega
end Go.Proofs.YtkclapimgmnldaaDoor
