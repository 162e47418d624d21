/-
  The scanner as a plain machine: no program in sight. What one call of Scan does to what is pending, unread, and to the split function's own state; how much a read hands out is left open.
-/
namespace Go.Proofs.YtkclapimgmnldaaDoor
set_option linter.unusedVariables false
set_option linter.unusedSimpArgs false
set_option maxRecDepth 20000

/-- The plain state of a scanner: what is in the buffer and not consumed, what the reader still has, the error (a code), the count of empty tokens, whether it is done, and the split function's own state. -/
structure Sm (σ : Type) where
  pend : List UInt8
  rest : List UInt8
  err : Option Nat
  emp : Nat
  done : Bool
  sp : σ

/-- What a split function answers: its state, the advance, the token if any, and 0 (no error), 1 (the final token) or 2 (its own error). -/
structure Ans (σ : Type) where
  sp : σ
  adv : Int
  tok : Option (List UInt8)
  code : Nat

/-- What a call of Scan comes to: false (some none), true with a token (some (some t)), or a panic (none). -/
abbrev Out : Type := Option (Option (List UInt8))

/- The codes of the errors. -/
abbrev cEOF : Nat := 0
abbrev cTooLong : Nat := 1
abbrev cNegative : Nat := 2
abbrev cFar : Nat := 3
abbrev cSplit : Nat := 4
abbrev cRead : Nat := 5
abbrev cFinal : Nat := 6

def Sm.setErr {σ : Type} (s : Sm σ) (c : Nat) : Sm σ :=
  if s.err = none ∨ s.err = some cEOF then { s with err := some c } else s

/-- What is left to do where the split function gave no token. -/
def Sm.after {σ : Type} (lim : Nat) (s : Sm σ) : (Out × Sm σ) ⊕ Sm σ :=
  if s.err.isSome then .inl (some none, { s with pend := [] })
  else if s.pend.length = lim then .inl (some none, s.setErr cTooLong)
  else .inr s

/-- What the split function's answer makes of the state. -/
def Sm.took {σ : Type} (lim : Nat) (s : Sm σ) (r : Ans σ) : (Out × Sm σ) ⊕ Sm σ :=
  if r.code = 1 then
    match r.tok with
    | some t => .inl (some (some t), { s with done := true, sp := r.sp })
    | none => .inl (some none, { s with done := true, sp := r.sp })
  else if r.code = 2 then .inl (some none, ({ s with sp := r.sp }).setErr cSplit)
  else if r.adv < 0 then .inl (some none, ({ s with sp := r.sp }).setErr cNegative)
  else if (s.pend.length : Int) < r.adv then .inl (some none, ({ s with sp := r.sp }).setErr cFar)
  else
    match r.tok with
    | some t =>
      if s.err = none ∨ 0 < r.adv then .inl (some (some t), { s with sp := r.sp, pend := s.pend.drop r.adv.toNat, emp := 0 })
      else if 100 < s.emp + 1 then .inl (none, { s with sp := r.sp, pend := s.pend.drop r.adv.toNat, emp := s.emp + 1 })
      else .inl (some (some t), { s with sp := r.sp, pend := s.pend.drop r.adv.toNat, emp := s.emp + 1 })
    | none => Sm.after lim { s with sp := r.sp, pend := s.pend.drop r.adv.toNat }

/-- One round of Scan's loop up to the read: it ends, or it must read. -/
def Sm.pre {σ : Type} (split : σ → List UInt8 → Bool → Ans σ) (lim : Nat) (s : Sm σ) : (Out × Sm σ) ⊕ Sm σ :=
  if s.pend ≠ [] ∨ s.err.isSome then Sm.took lim s (split s.sp s.pend s.err.isSome) else Sm.after lim s

/-- One read, for a reader that hands out at least one byte as long as there are any. -/
def Sm.Rd {σ : Type} (lim : Nat) (tog : Bool) (endE : Nat) (s s' : Sm σ) : Prop :=
  (s.rest = [] ∧ s' = { s with err := some endE }) ∨
  (∃ n, 1 ≤ n ∧ n ≤ s.rest.length ∧ s.pend.length + n ≤ lim ∧
    s' = if tog && n == s.rest.length then { s with pend := s.pend ++ s.rest.take n, rest := s.rest.drop n, err := some endE }
         else { s with pend := s.pend ++ s.rest.take n, rest := s.rest.drop n, emp := 0 })

/-- k reads and what comes of them. -/
def Sm.LoopN {σ : Type} (split : σ → List UInt8 → Bool → Ans σ) (lim : Nat) (tog : Bool) (endE : Nat) : Nat → Sm σ → Out → Sm σ → Prop
  | 0, s, o, s' => Sm.pre split lim s = .inl (o, s')
  | k + 1, s, o, s' => ∃ s1 s2, Sm.pre split lim s = .inr s1 ∧ Sm.Rd lim tog endE s1 s2 ∧ Sm.LoopN split lim tog endE k s2 o s'

/-- A call of Scan. -/
def Sm.Scan {σ : Type} (split : σ → List UInt8 → Bool → Ans σ) (lim : Nat) (tog : Bool) (endE : Nat) (s : Sm σ) (o : Out) (s' : Sm σ) : Prop :=
  (s.done = true ∧ o = some none ∧ s' = s) ∨ (s.done = false ∧ ∃ k, Sm.LoopN split lim tog endE k s o s')

/-- What the measure of the loop counts. -/
def Sm.left {σ : Type} (s : Sm σ) : Nat := s.rest.length + (if s.err.isSome then 0 else 1)

end Go.Proofs.YtkclapimgmnldaaDoor
